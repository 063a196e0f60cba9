import PyProof.Rows.All
import Wide.All
import OpenK.AllK
import Wide.FinOn
import PySem.Challenge.RW_tl0049_01
set_option Elab.async false
-- the head
section
open PySem PySem.W PyProof.Rows
set_option maxRecDepth 100000
set_option maxHeartbeats 8000000
namespace Mine
theorem nq : @PySem.W.namesOk = @PySem.W.namesOk := rfl
name_quick tw8075568018651887793 for PySem.W.namesOk by nq
name_quick tw14376985748213822385 for PySem.W.namesOk by nq
name_quick tw4444965560193506482 for PySem.W.namesOk by nq
name_quick tw923604117134886902 for PySem.W.namesOk by nq
name_quick tw5591276700874282246 for PySem.W.namesOk by nq
name_quick tw11587687937092438486 for PySem.W.namesOk by nq
name_quick tw8300267637197109095 for PySem.W.namesOk by nq
name_quick tw13198648067127048565 for PySem.W.namesOk by nq
name_quick tw12299960069397203266 for PySem.W.namesOk by nq
name_quick tw17224707938729390701 for PySem.W.namesOk by nq
name_quick tw10454494479268063676 for PySem.W.namesOk by nq
name_quick tw12469489778152837 for PySem.W.namesOk by nq
name_quick tw16390375249116991291 for PySem.W.namesOk by nq
name_quick tw10790270229335939298 for PySem.W.namesOk by nq
name_quick tw12299743096253456131 for PySem.W.namesOk by nq
name_quick tw16705588012109328328 for PySem.W.namesOk by nq
name_quick tw17047587732179306917 for PySem.W.namesOk by nq
name_quick tw9539479885485572040 for PySem.W.namesOk by nq
name_quick tw15194872280508774684 for PySem.W.namesOk by nq
name_quick tw3125434132718643974 for PySem.W.namesOk by nq
name_quick tw16004227719276185260 for PySem.W.namesOk by nq
name_quick tw1742388947695640072 for PySem.W.namesOk by nq
name_quick tw11432653035071105302 for PySem.W.namesOk by nq
name_quick tw795377275742717654 for PySem.W.namesOk by nq
name_quick tw14127181297215883289 for PySem.W.namesOk by nq
name_quick tw11384798719751882707 for PySem.W.namesOk by nq
name_quick tw6176516700144440145 for PySem.W.namesOk by nq
name_quick tw18103910768895448316 for PySem.W.namesOk by nq
name_quick tw7511906259402933339 for PySem.W.namesOk by nq
name_quick tw9548065526061515126 for PySem.W.namesOk by nq
name_quick tw18222870959881175025 for PySem.W.namesOk by nq
name_quick tw2677710278130947410 for PySem.W.namesOk by nq
name_quick tw1086765413395364841 for PySem.W.namesOk by nq
name_quick tw6733733256287894996 for PySem.W.namesOk by nq
name_quick tw13642483538084851733 for PySem.W.namesOk by nq
name_quick tw14979626087600564940 for PySem.W.namesOk by nq
open_top hd for PySem.Challenge.rw_tl0049_01
end Mine
end
-- Base
noncomputable section
open PySem PySem.W PyProof.Rows
set_option maxRecDepth 100000
namespace Mine
abbrev PR : Program := PySem.Challenge.rw_tl0049_01.row.prog
abbrev KW (w : World) : Frag := hd.heap_39 w.params
/-- what a call of the text's def at f with vs gives back: R -/
abbrev Con (w : World) (f : Addr) (vs : List Value) (R : Tok → Value) : Prop :=
  ∀ (loos : List Str) (mean : ExcName → Option Value) (mg mb : Str → Option Value) (news : CbLed), CbClaim PR w (KW w) hd.view_39 loos mean mg mb f news [] True vs R
end Mine
end
-- Tb
section
open PySem PySem.W PySem.Calls PyProof.Rows
set_option maxRecDepth 100000
namespace Mine
/-- a place where the walk stands still -/
def STOP (P : Prop) : Prop := P
theorem stop_of {P : Prop} (h : STOP P) : P := h
theorem STOP.out {P : Prop} (h : P) : STOP P := h
/-- a text by its signs' numbers -/
def T (l : List Nat) : PySem.Str := ⟨l.toArray⟩
theorem T_app (a b : List Nat) : T a ++ T b = T (a ++ b) := PySem.Str.ext' (by rw [PySem.Str.cps_append]; simp [T])
theorem T_len (l : List Nat) : (T l).length = l.length := by simp [T, PySem.Str.length]
theorem T_list (l : List Nat) : (T l).cps.toList = l := by simp [T]
theorem T_inj {a b : List Nat} (h : T a = T b) : a = b := by have := congrArg (fun x => x.cps.toList) h; simpa [T] using this
theorem T_of (x : PySem.Str) : x = T x.cps.toList := PySem.Str.ext' (by simp [T])
theorem T_beq (a b : List Nat) : (T a == T b) = (a == b) := by
  rw [Bool.eq_iff_iff]
  simp only [beq_iff_eq]
  exact ⟨T_inj, fun h => by rw [h]⟩
theorem T_bne (a b : List Nat) : (T a != T b) = (a != b) := by show (!(T a == T b)) = !(a == b); rw [T_beq]

/-- a text that the program writes out, in that form -/
theorem lit_257 : PySem.Str.ofString "257" = T [50, 53, 55] := by decide +kernel
theorem lit_sq : PySem.Str.ofString " \"" = T [32, 34] := by decide +kernel
theorem lit_ : PySem.Str.ofString "" = T [] := by decide +kernel
theorem lit_q : PySem.Str.ofString "\"" = T [34] := by decide +kernel
theorem lit_257sq : PySem.Str.ofString "257 \"" = T [50, 53, 55, 32, 34] := by decide +kernel
theorem lit_qq : PySem.Str.ofString "\"\"" = T [34, 34] := by decide +kernel
theorem lit_qmade : PySem.Str.ofString "\" made" = T [34, 32, 109, 97, 100, 101] := by decide +kernel
theorem lit_257s : PySem.Str.ofString "257 " = T [50, 53, 55, 32] := by decide +kernel
theorem lit_x : PySem.Str.ofString "x" = T [120] := by decide +kernel
theorem lit_b : PySem.Str.ofString "\\" = T [92] := by decide +kernel
theorem lit_bb : PySem.Str.ofString "\\\\" = T [92, 92] := by decide +kernel
theorem lit_bq : PySem.Str.ofString "\\\"" = T [92, 34] := by decide +kernel
theorem lit_tab : PySem.Str.ofString "\t" = T [9] := by decide +kernel
theorem lit_s : PySem.Str.ofString " " = T [32] := by decide +kernel
theorem lit_xbqb : PySem.Str.ofString "x\\\"\\" = T [120, 92, 34, 92] := by decide +kernel


theorem item_T {l : List Nat} {i c : Nat} (h : l[i]? = some c) : Txt.item (T l) (i : Int) = T [c] := by
  rw [PyProof.Rows.item_meets (n := c) (by omega) (by simpa [T] using h)]
  rfl
theorem slice_T {l : List Nat} {i j : Int} (h0 : 0 ≤ i) (h1 : i ≤ j) (h2 : j ≤ l.length) : Txt.slice (T l) (some i) (some j) = T ((l.drop i.toNat).take (j - i).toNat) := by
  have := eq_of_beq (slice_closes (x := T l) (i := i) (j := j) ⟨h0, h1, by rw [T_list]; exact h2⟩)
  rw [this, T_list]; rfl
theorem slice_to_T {l : List Nat} {j : Int} (h0 : 0 ≤ j) (h2 : j ≤ l.length) : Txt.slice (T l) none (some j) = T (l.take j.toNat) := by
  have := eq_of_beq (slice_closes_to (x := T l) (j := j) ⟨h0, by rw [T_list]; exact h2⟩)
  rw [this, T_list]
  simp [T]
theorem slice_from_T {l : List Nat} {i : Int} (h0 : 0 ≤ i) (h2 : i ≤ l.length) : Txt.slice (T l) (some i) none = T (l.drop i.toNat) := by
  have := eq_of_beq (slice_closes_fromL (x := T l) (i := i) (b := l.length) h0 (by rw [T_len]; exact h2) (by rw [T_len]))
  rw [this, T_list]
  congr 1
  rw [List.take_of_length_le]
  rw [List.length_drop]; omega

section
variable {prog : Program} {w : World} {A : Around} {E : Value → Shared → Prop} {s : Shared} {value slice : PySem.Expr} {x y z : PySem.Str} {t u v : Tok} {h₀ : Heap} {L : Addr} {m : PySem.Str → Option Value} {news : List (Addr × Obj)} {Q : Value → Shared → Prop}

theorem gentok {α : Type} {M : Model} {tr : Sem α} {Q : α → Shared → Prop} {h : Heap} {g d tk o} (hp : 0 < tk) (k : ∀ tk', 0 < tk' → wpAny M A tr Q E ⟨h, g, d, tk', o⟩) : wpAny M A tr Q E ⟨h, g, d, tk, o⟩ := k tk hp

theorem r_slice_to {j : Int} {uj : Tok} (e : Txt.slice x none (some j) = y) (hz : x.length ≤ 65536) (hF : Fr h₀ L s.heap m) (hN : News h₀ L s.heap news)
    (h : ∀ h' t' k, Fr h₀ L h' m → News h₀ L h' news → Q (.str y t') { s with heap := h', toks := k })
    (hs : subscripted slice false (.str x t) (.ref s.heap.objs.size) = operate [.ref s.heap.objs.size, .str x t] (getItem (.str x t) (.ref s.heap.objs.size)))
    (ht : ∀ r, letTemporaryGo value (.str x t) r = pure ()) :
    wpAny (model prog w) A (subscriptTail value slice (.str x t) (.ref s.heap.objs.size)) Q E { s with heap := s.heap.push { cls := .type "slice", data := .fields #[.none, .int j uj, .none] } } := by
  subst e
  exact slice_strN_ns hF hN h hs ht (Nat.le_trans hz (by decide))
theorem r_slice {i j : Int} {ui uj : Tok} (e : Txt.slice x (some i) (some j) = y) (hz : x.length ≤ 65536) (hF : Fr h₀ L s.heap m) (hN : News h₀ L s.heap news)
    (h : ∀ h' t' k, Fr h₀ L h' m → News h₀ L h' news → Q (.str y t') { s with heap := h', toks := k })
    (hs : subscripted slice false (.str x t) (.ref s.heap.objs.size) = operate [.ref s.heap.objs.size, .str x t] (getItem (.str x t) (.ref s.heap.objs.size)))
    (ht : ∀ r, letTemporaryGo value (.str x t) r = pure ()) :
    wpAny (model prog w) A (subscriptTail value slice (.str x t) (.ref s.heap.objs.size)) Q E { s with heap := s.heap.push { cls := .type "slice", data := .fields #[.int i ui, .int j uj, .none] } } := by
  subst e
  exact slice_strN_ss hF hN h hs ht (Nat.le_trans hz (by decide))
theorem r_slice_from {i : Int} {ui : Tok} (e : Txt.slice x (some i) none = y) (hz : x.length ≤ 65536) (hF : Fr h₀ L s.heap m) (hN : News h₀ L s.heap news)
    (h : ∀ h' t' k, Fr h₀ L h' m → News h₀ L h' news → Q (.str y t') { s with heap := h', toks := k })
    (hs : subscripted slice false (.str x t) (.ref s.heap.objs.size) = operate [.ref s.heap.objs.size, .str x t] (getItem (.str x t) (.ref s.heap.objs.size)))
    (ht : ∀ r, letTemporaryGo value (.str x t) r = pure ()) :
    wpAny (model prog w) A (subscriptTail value slice (.str x t) (.ref s.heap.objs.size)) Q E { s with heap := s.heap.push { cls := .type "slice", data := .fields #[.int i ui, .none, .none] } } := by
  subst e
  exact slice_strN_sn hF hN h hs ht (Nat.le_trans hz (by decide))

theorem r_item {l : List Nat} {i : Int} {c : Nat} (h0 : 0 ≤ i) (h1 : l[i.toNat]? = some c) (hz : l.length ≤ 65536) (hx : x = T l)
    (h : Q (.str (T [c]) s.toks) { s with toks := s.toks + 1 })
    (hs : subscripted slice false (.str x t) (.int i u) = operate [.str x t, .int i u] (getItem (.str x t) (.int i u)))
    (ht : ∀ r, letTemporaryGo value (.str x t) r = pure ()) :
    wpAny (model prog w) A (subscriptTail value slice (.str x t) (.int i u)) Q E s := by
  obtain ⟨n, rfl⟩ := Int.eq_ofNat_of_zero_le h0
  rw [Int.toNat_natCast] at h1
  subst hx
  have hlt : n < l.length := by
    rcases Nat.lt_or_ge n l.length with h | h
    · exact h
    · rw [List.getElem?_eq_none h] at h1; cases h1
  refine item_str (fitsSsize_of (N := 9223372036854775808) (by omega) (by omega) (Int.le_refl _)) (by rw [T_len]; omega) (by rw [T_len]; omega) (fun _ => ?_) hs ht
  rw [item_T h1]
  exact h
theorem eqT {a : Bool} (h : a = true) : a = true := h
theorem eqF {a : Bool} (h : a = false) : a = false := h
theorem r_neI {i j : Int} {b : Bool} (hb : (i != j) = b) (h : Q (.bool b) s) : wpAny (model prog w) A (compareOp .NotEq (.int i t) (.int j u)) Q E s := PyProof.Rows.ne_int (by rw [hb]; exact h)
theorem r_eqT {a c : List Nat} {b : Bool} (hx : x = T a) (hy : y = T c) (hb : (a == c) = b) (h : Q (.bool b) s) : wpAny (model prog w) A (compareOp .Eq (.str x t) (.str y u)) Q E s := by
  subst hx hy
  exact eq_str (by rw [T_beq, hb]; exact h)
theorem r_neT {a c : List Nat} {b : Bool} (hx : x = T a) (hy : y = T c) (hb : (a != c) = b) (h : Q (.bool b) s) : wpAny (model prog w) A (compareOp .NotEq (.str x t) (.str y u)) Q E s := by
  subst hx hy
  exact ne_str (by rw [T_bne, hb]; exact h)
theorem r_eq {b : Bool} (hb : (x == y) = b) (h : Q (.bool b) s) : wpAny (model prog w) A (compareOp .Eq (.str x t) (.str y u)) Q E s := eq_str (by rw [hb]; exact h)
theorem r_ne {b : Bool} (hb : (x != y) = b) (h : Q (.bool b) s) : wpAny (model prog w) A (compareOp .NotEq (.str x t) (.str y u)) Q E s := ne_str (by rw [hb]; exact h)
theorem r_add {a b : List Nat} (hx : x = T a) (hy : y = T b) (hz : a.length + b.length ≤ 65536) (h : ∀ t' k, Q (.str (T (a ++ b)) t') { s with toks := k }) : wpAny (model prog w) A (binaryOp .Add (.str x t) (.str y u)) Q E s := by
  subst hx hy
  exact PyProof.Rows.add_str (fun t' k => by rw [T_app]; exact h t' k) (by rw [T_len, T_len, sizeLine_eq]; omega)
theorem r_len {l : List Nat} (hx : x = T l) (hz : l.length ≤ 65536) (h : Q (.int l.length (s.toks + 1)) { s with toks := s.toks + 1 + 1 }) : wpAny (model prog w) A (call (.builtin "len") [.str x t]) Q E s := by
  subst hx
  exact PyProof.Rows.len_str (by rw [T_len]; omega) (by rw [T_len]; exact h)
theorem r_lenT {a : Addr} {vs : List Value} {cnt : List Int} (ht : IsTup s.heap a vs.toArray) (hv : IntsAre vs cnt) (hz : cnt.length ≤ 65536)
    (h : Q (.int cnt.length (s.toks + 1)) { s with toks := s.toks + 1 + 1 }) : wpAny (model prog w) A (call (.builtin "len") [.ref a]) Q E s := by
  have e : vs.toArray.size = cnt.length := by rw [List.size_toArray]; exact hv.length
  exact len_tuple ht (by rw [e]; omega) (by rw [e]; exact h)
theorem r_itemT {a : Addr} {vs : List Value} {cnt : List Int} {k v : Int} (ht : IsTup s.heap a vs.toArray) (hv : IntsAre vs cnt) (h0 : 0 ≤ k) (hz : cnt.length ≤ 65536) (hc : cnt[k.toNat]? = some v)
    (h : ∀ t', Q (.int v t') s)
    (hs : subscripted slice false (.ref a) (.int k u) = operate [.ref a, .int k u] (getItem (.ref a) (.int k u))) :
    wpAny (model prog w) A (subscriptTail value slice (.ref a) (.int k u)) Q E s := by
  obtain ⟨n, rfl⟩ := Int.eq_ofNat_of_zero_le h0
  rw [Int.toNat_natCast] at hc
  obtain ⟨t', ht'⟩ := hv.get n v hc
  have hlt : n < cnt.length := by
    rcases Nat.lt_or_ge n cnt.length with h | h
    · exact h
    · rw [List.getElem?_eq_none h] at hc; cases hc
  have hl := hv.length
  refine item_tupleT (j := n) ht (by omega) (by omega) ?_ ht' (h t') hs
  unfold seqIndex?
  have e1 : ¬ ((n : Int) < 0) := by omega
  have e2 : ((n : Int) < (vs.length : Int)) := by omega
  have e3 : (0 : Int) ≤ (n : Int) := by omega
  simp only [e1, if_false, e2, e3, decide_true, Bool.and_self, if_true, Int.toNat_natCast]
end
end Mine
end
-- Pq
section
open PySem PySem.W PyProof.Rows
namespace Mine
/-- what the FTP's reader takes out of the signs behind the first quotation mark -/
def pq : List Nat → List Nat
  | [] => []
  | [c] => if c = 34 then [] else [c]
  | c :: d :: r => if c = 34 then (if d = 34 then 34 :: pq r else []) else c :: pq (d :: r)
theorem pq_nil : pq [] = [] := rfl
theorem pq_other {c : Nat} (h : c ≠ 34) : ∀ r, pq (c :: r) = c :: pq r
  | [] => by simp [pq, h]
  | d :: r => by simp [pq, h]
theorem pq_two (r : List Nat) : pq (34 :: 34 :: r) = 34 :: pq r := by simp [pq]
theorem pq_end : pq [34] = [] := by simp [pq]
theorem pq_stop {d : Nat} (h : d ≠ 34) (r : List Nat) : pq (34 :: d :: r) = [] := by simp [pq, h]
theorem pq_len : ∀ l, (pq l).length ≤ l.length
  | [] => by simp [pq]
  | [c] => by simp only [pq]; split <;> simp
  | c :: d :: r => by
    have h1 := pq_len r
    have h2 := pq_len (d :: r)
    simp only [pq]
    split
    · split
      · simp only [List.length_cons]; omega
      · simp
    · simp only [List.length_cons] at *; omega
theorem drop_at {l : List Nat} {k c : Nat} (h : l[k]? = some c) : l.drop k = c :: l.drop (k + 1) := by
  have hlt : k < l.length := by
    rcases Nat.lt_or_ge k l.length with h' | h'
    · exact h'
    · rw [List.getElem?_eq_none h'] at h; cases h
  rw [List.drop_eq_getElem_cons hlt]
  congr 1
  exact Option.some.inj ((List.getElem?_eq_getElem hlt).symm.trans h)
end Mine
end
-- Wk
section
open PySem PySem.W PyProof.Rows
namespace Mine
/-- the column behind one sign more -/
def stp (sz col : Nat) (c : Int) : Nat := if c = 120 then (col / sz + 1) * sz else col + 1
def wk (sz : Nat) (l : List Nat) : Nat := l.foldl (fun col (c : Nat) => stp sz col (c : Int)) 0
theorem wk_codes (sz : Nat) (l : List Nat) : (KStt.codes (T l)).foldl (stp sz) 0 = wk sz l := by
  unfold KStt.codes wk
  rw [T_list, List.foldl_map]
theorem stp_snoc (sz : Nat) (l : List Int) (n : Int) : (l ++ [n]).foldl (stp sz) 0 = stp sz (l.foldl (stp sz) 0) n := by simp
theorem fmod_nat (a b : Nat) : Int.fmod (a : Int) (b : Int) = ((a % b : Nat) : Int) := by
  rw [Int.fmod_eq_emod_of_nonneg _ (by omega)]; rfl
theorem up_end {sz col : Nat} (_h : 1 ≤ sz) : Int.fmod (((col / sz + 1) * sz : Nat) : Int) (sz : Int) = 0 := by
  rw [fmod_nat, Nat.mul_mod_left]; rfl
theorem up_mid {sz col c : Nat} (h : 1 ≤ sz) (h1 : col < c) (h2 : c < (col / sz + 1) * sz) : Int.fmod (c : Int) (sz : Int) ≠ 0 := by
  rw [fmod_nat]
  intro e
  have e' : c % sz = 0 := by omega
  have hc := Nat.div_add_mod c sz
  have hd := Nat.div_add_mod col sz
  have hm := Nat.mod_lt col (show 0 < sz by omega)
  rw [e'] at hc
  have l1 : c / sz < col / sz + 1 := by
    refine Nat.lt_of_mul_lt_mul_left (a := sz) ?_
    rw [Nat.mul_comm sz (col / sz + 1)]
    omega
  have l2 : sz * (c / sz) ≤ sz * (col / sz) := Nat.mul_le_mul_left _ (by omega)
  omega
theorem up_lt {sz col : Nat} (h : 1 ≤ sz) : col < (col / sz + 1) * sz := by
  have hd := Nat.div_add_mod col sz
  have hm := Nat.mod_lt col (show 0 < sz by omega)
  rw [Nat.add_mul, Nat.mul_comm (col / sz) sz]
  omega
end Mine
end
-- Lp
section
open PySem PySem.W PySem.Calls PyProof.Rows PySem.Spec
namespace Mine
section
variable {prog : Program} {w : World} {A : Around} {E : Value → Shared → Prop} {s : Shared} {env : Env} {h₀ : Heap} {x : PySem.Str} {body : List Stmt} {Q : Flow → Shared → Prop}
/-- a loop over a text whose turns may make and drop objects: a word on the frame and the ledger -/
theorem iter_textW {xt : PySem.Str} {tx : Tok} {m₀ : PySem.Str → Option Value} {news : List (Addr × Obj)} (J : Nat → (PySem.Str → Option Value) → List (Addr × Obj) → Prop)
    (hasc : xt.cps.all (· < 128) = true) (hh : A.handled = none) (F : Fr h₀ env.locals s.heap m₀) (N : News h₀ env.locals s.heap news) (hj : J 0 m₀ news)
    (turn : ∀ (I : Addr), (∀ p ∈ news, p.1 < I) → ∀ i n t m₁ news₁ (it : Obj) h tk, it.cls = .type "str_ascii_iterator" → xt.cps[i]? = some n → (∀ p ∈ news₁, p.1 ≠ I) → J i m₁ news₁ →
      Fr h₀ env.locals h (fun y => if y = x then some (.str ⟨#[n]⟩ t) else m₁ y) → News h₀ env.locals h ((I, it) :: news₁) →
      wpAny (model prog w) A (execs body env) (UnrPost h₀ env.locals { s with heap := h, toks := tk } I it (J (i + 1)) Q) E { s with heap := h, toks := tk })
    (done : ∀ m₁ news₁ h tk, J xt.cps.size m₁ news₁ → Fr h₀ env.locals h m₁ → News h₀ env.locals h news₁ → Q .next { s with heap := h, toks := tk }) :
    wpAny (model prog w) A (pyIter (.str xt tx)) (fun it s₂ => LoopAtV prog w A h₀ env x body Q E it s₂) E s := by
  refine wpAny_pyIter_ascii hasc ?_
  have W := Walks.strAscii (prog := prog) (w := w) hh s.heap.objs.size xt tx
  have hnew := next_is_new F
  have turn' := turn s.heap.objs.size fun p hp => Heap.lt_size (N p hp).1
  refine ⟨_, _, _, xt.cps.size, _, _, m₀, news, J, rfl, W, ?_, ?_, ?_, ⟨_, Heap.get?_push_size _ rfl, rfl, rfl⟩, F.push _, (fun p hp => ⟨Heap.get?_push_of_some _ (N p hp).1, (N p hp).2⟩), hj, ?_, ?_⟩
  · intro hm
    exact absurd F.ns.lt ((List.mem_singleton.mp hm) ▸ Nat.lt_irrefl _)
  · intro b hb
    rw [List.mem_singleton.mp hb]
    exact hnew
  · intro p hp hI
    exact absurd (Heap.lt_size (N p hp).1) ((List.mem_singleton.mp hI) ▸ Nat.lt_irrefl _)
  · rintro i v m₁ news₁ s₁ own ⟨hh', tk', rfl⟩ hin ⟨c, u, hc, rfl⟩ hJ hoff hown hget hall ⟨it, hit, hic, hid⟩ F₁ N₁
    have hmemI := hall s.heap.objs.size (List.mem_cons_self ..) hnew _ hit
    have N₂ : News h₀ env.locals hh' ((s.heap.objs.size, it) :: news₁) := fun p hp => by
      rcases List.mem_cons.mp hp with rfl | hp
      · exact N₁ _ (List.mem_append_left _ hmemI)
      · exact N₁ _ (List.mem_append_right _ hp)
    refine wpAny_mono (turn' i c u m₁ news₁ it hh' tk' hic hc (fun p hp e => hoff p hp (by rw [e]; exact List.mem_cons_self ..)) hJ F₁ N₂) (fun f s₂ p => ?_) fun _ _ e => e
    have fin : UnrEnd h₀ env.locals { s with heap := hh', toks := tk' } s.heap.objs.size it (J (i + 1)) s₂ →
        LoopStepU h₀ env.locals [s.heap.objs.size] own (J (i + 1)) { s with heap := hh', toks := tk' } .next s₂ := by
      rintro ⟨h', tk, m', news', e, F', N', ho, hmm⟩
      refine ⟨rfl, h', tk, m', news', e, F', fun p hp => ?_, fun p hp hI => ho p hp (List.mem_singleton.mp hI), hmm⟩
      rcases List.mem_append.mp hp with hp | hp
      · have h2 : hh'.get? p.1 = some p.2 := hget p hp
        have h1 := List.mem_singleton.mp (hown p hp)
        have h3 : p = (s.heap.objs.size, it) := by
          rw [h1, hit] at h2
          exact Prod.ext h1 (Option.some.inj h2).symm
        rw [h3]; exact N' _ (List.mem_cons_self ..)
      · exact N' _ (List.mem_cons_of_mem _ hp)
    cases f with
    | ret v => exact .ret p
    | brk => exact .brk p
    | next => exact .next (fin p)
    | cont => exact .cont (fin p)
  · rintro h' tk m' news' F' N' _ hJ
    exact done m' news' h' tk hJ F' N'

def KstW {σ : Type} (Led : σ → List (Addr × Obj)) (ps : σ → List (PySem.Str × Value)) (x : PySem.Str) (stored : List PySem.Str) (m₀ : PySem.Str → Option Value) (P : Nat → σ → Prop) (i : Nat) (m : PySem.Str → Option Value) (nx : List (Addr × Obj)) : Prop :=
  ∃ c : σ, nx = Led c ∧ (∀ p ∈ ps c, m p.1 = some p.2) ∧ (∀ z, z ≠ x → (∀ p ∈ ps c, z ≠ p.1) → stored.contains z = false → m z = m₀ z) ∧ P i c
theorem kstw_end {σ : Type} {Led : σ → List (Addr × Obj)} {ps : σ → List (PySem.Str × Value)} {stored : List PySem.Str} {m₀ : PySem.Str → Option Value} {P : Nat → σ → Prop} {i : Nat} (c : σ) {L I : Addr} {it : Obj} {m' : PySem.Str → Option Value} {all : List (Addr × Obj)} {s₁ : Shared} {h' : Heap} {tk : Nat}
    (F : Fr h₀ L h' m') (N : News h₀ L h' all) (hI : (I, it) ∈ all) (sub : ∀ p ∈ Led c, p ∈ all) (off : ∀ p ∈ Led c, p.1 ≠ I) (hk : ∀ p ∈ ps c, m' p.1 = some p.2) (hr : ∀ z, z ≠ x → (∀ p ∈ ps c, z ≠ p.1) → stored.contains z = false → m' z = m₀ z) (hp : P i c) :
    UnrEnd h₀ L s₁ I it (KstW Led ps x stored m₀ P i) { s₁ with heap := h', toks := tk } :=
  UnrEnd.intro F N (Led c) (fun p hp => by rcases List.mem_cons.mp hp with rfl | hp; exact hI; exact sub p hp) off ⟨c, rfl, hk, hr, hp⟩
theorem kst_textW {σ : Type} {xt : PySem.Str} {tx : Tok} {m₀ : PySem.Str → Option Value} (Led : σ → List (Addr × Obj)) (ps : σ → List (PySem.Str × Value)) (stored : List PySem.Str) (P : Nat → σ → Prop) (c₀ : σ)
    (hasc : xt.cps.all (· < 128) = true) (hh : A.handled = none) (F : Fr h₀ env.locals s.heap m₀) (N : News h₀ env.locals s.heap (Led c₀)) (hk : ∀ p ∈ ps c₀, m₀ p.1 = some p.2) (hp : P 0 c₀)
    (turn : ∀ (I : Addr), (∀ p ∈ Led c₀, p.1 < I) → ∀ (c : σ) i n t (u : PySem.Str → Option Value) (it : Obj) h tk, it.cls = .type "str_ascii_iterator" → xt.cps[i]? = some n → (∀ p ∈ Led c, p.1 ≠ I) → P i c →
      Fr h₀ env.locals h (fun y => if y = x then some (.str ⟨#[n]⟩ t) else kstB (fun z => if stored.contains z then u z else m₀ z) (ps c) y) → News h₀ env.locals h ((I, it) :: Led c) →
      wpAny (model prog w) A (execs body env) (UnrPost h₀ env.locals { s with heap := h, toks := tk } I it (KstW Led ps x stored m₀ P (i + 1)) Q) E { s with heap := h, toks := tk })
    (done : ∀ (c : σ) (u : PySem.Str → Option Value) h tk, P xt.cps.size c → Fr h₀ env.locals h (fun y => if y = x then u y else kstB (fun z => if stored.contains z then u z else m₀ z) (ps c) y) → News h₀ env.locals h (Led c) → Q .next { s with heap := h, toks := tk }) :
    wpAny (model prog w) A (pyIter (.str xt tx)) (fun it s₂ => LoopAtV prog w A h₀ env x body Q E it s₂) E s := by
  refine iter_textW (KstW Led ps x stored m₀ P) hasc hh F N ⟨c₀, rfl, hk, fun _ _ _ _ => rfl, hp⟩ ?_ ?_
  · rintro I hI i n t m₁ news₁ it h tk hic hn hoff ⟨c, rfl, h1, h2, hp'⟩ F₁ N₁
    exact turn I hI c i n t m₁ it h tk hic hn hoff hp' (kst_fr h1 h2 F₁) N₁
  · rintro m₁ news₁ h tk ⟨c, rfl, h1, h2, hp'⟩ F₁ N₁
    exact done c m₁ h tk hp' (kst_frOut h1 h2 F₁) N₁
/-- the same, where one object at the ledger's head is made anew now and then, younger than the rest -/
theorem kst_textR {σ : Type} {xt : PySem.Str} {tx : Tok} {m₀ : PySem.Str → Option Value} (adr : σ → Addr) (ob : σ → Obj) {rest : List (Addr × Obj)} (ps : σ → List (PySem.Str × Value)) (stored : List PySem.Str) (P : Nat → σ → Prop) (c₀ : σ)
    (hasc : xt.cps.all (· < 128) = true) (hh : A.handled = none) (F : Fr h₀ env.locals s.heap m₀) (N : News h₀ env.locals s.heap ((adr c₀, ob c₀) :: rest)) (hlt : ∀ p ∈ rest, p.1 < adr c₀) (hk : ∀ p ∈ ps c₀, m₀ p.1 = some p.2) (hp : P 0 c₀)
    (turn : ∀ (I : Addr), (∀ p ∈ rest, p.1 < I) → ∀ (c : σ) i n t (u : PySem.Str → Option Value) (it : Obj) h tk, it.cls = .type "str_ascii_iterator" → xt.cps[i]? = some n → @Ne Nat (adr c) I → (∀ p ∈ rest, p.1 < adr c) → P i c →
      Fr h₀ env.locals h (fun y => if y = x then some (.str ⟨#[n]⟩ t) else kstB (fun z => if stored.contains z then u z else m₀ z) (ps c) y) → News h₀ env.locals h ((I, it) :: (adr c, ob c) :: rest) →
      wpAny (model prog w) A (execs body env) (UnrPost h₀ env.locals { s with heap := h, toks := tk } I it (KstW (fun c => (adr c, ob c) :: rest) ps x stored m₀ (fun i c => (∀ p ∈ rest, p.1 < adr c) ∧ P i c) (i + 1)) Q) E { s with heap := h, toks := tk })
    (done : ∀ (c : σ) (u : PySem.Str → Option Value) h tk, (∀ p ∈ rest, p.1 < adr c) → P xt.cps.size c → Fr h₀ env.locals h (fun y => if y = x then u y else kstB (fun z => if stored.contains z then u z else m₀ z) (ps c) y) → News h₀ env.locals h ((adr c, ob c) :: rest) → Q .next { s with heap := h, toks := tk }) :
    wpAny (model prog w) A (pyIter (.str xt tx)) (fun it s₂ => LoopAtV prog w A h₀ env x body Q E it s₂) E s := by
  refine kst_textW (fun c => (adr c, ob c) :: rest) ps stored (fun i c => (∀ p ∈ rest, p.1 < adr c) ∧ P i c) c₀ hasc hh F N hk ⟨hlt, hp⟩ ?_ ?_
  · intro I hI c i n t u it h tk hic hn hoff hp' F₁ N₁
    exact turn I (fun p hp => hI p (List.mem_cons_of_mem _ hp)) c i n t u it h tk hic hn (hoff _ (List.mem_cons_self ..)) hp'.1 hp'.2 F₁ N₁
  · intro c u h tk hp' F₁ N₁
    exact done c u h tk hp'.1 hp'.2 F₁ N₁
end
end Mine
end
-- Ws
section
open PySem PySem.W PySem.Calls PyProof.Rows
namespace Mine
/-- the column of a text for whom 9 is a tab, every other sign a blank -/
def colZ (ts : Int) (p : List Nat) : Int := p.foldl (fun col c => if c = 9 then (col / ts + 1) * ts else col + 1) 0
theorem colZ_snoc (ts : Int) (p : List Nat) (c : Nat) : colZ ts (p ++ [c]) = if c = 9 then (colZ ts p / ts + 1) * ts else colZ ts p + 1 := by simp [colZ]
/-- the sum over the counts, each by its place's whole tabs -/
def sumJ (ts : Int) : Nat → List Int → Int
  | _, [] => 0
  | k, a :: r => ((k : Int) / ts) * a + sumJ ts (k + 1) r
theorem sumJ_app (ts : Int) : ∀ (k : Nat) (a b : List Int), sumJ ts k (a ++ b) = sumJ ts k a + sumJ ts (k + a.length) b
  | k, [], b => by simp [sumJ]
  | k, x :: a, b => by
    rw [List.cons_append]
    simp only [sumJ, List.length_cons]
    rw [sumJ_app ts (k + 1) a b, show k + 1 + a.length = k + (a.length + 1) by omega]
    omega
theorem sumJ_zeros (ts : Int) : ∀ (n k : Nat), sumJ ts k (List.replicate n 0) = 0
  | 0, _ => rfl
  | n + 1, k => by rw [List.replicate_succ]; simp only [sumJ]; rw [sumJ_zeros ts n (k + 1)]; omega
theorem sumJ_set (ts : Int) : ∀ (k : Nat) (a : List Int) (b : Nat) (v : Int), a[b]? = some v → sumJ ts k (a.set b (v + 1)) = sumJ ts k a + ((k + b : Nat) : Int) / ts
  | k, [], b, v, h => by simp at h
  | k, x :: a, 0, v, h => by
    simp at h
    subst h
    simp only [List.set_cons_zero, sumJ, Nat.add_zero]
    rw [Int.mul_add]; omega
  | k, x :: a, b + 1, v, h => by
    simp only [List.getElem?_cons_succ] at h
    simp only [List.set_cons_succ, sumJ]
    rw [sumJ_set ts (k + 1) a b v h, show k + 1 + b = k + (b + 1) by omega]
    omega
theorem sumJ_low {ts : Nat} (_h : 1 ≤ ts) : ∀ (a : List Int) (k : Nat), k + a.length ≤ ts → sumJ (ts : Int) k a = 0
  | [], _, _ => rfl
  | x :: a, k, h => by
    simp only [sumJ, List.length_cons] at *
    rw [sumJ_low _h a (k + 1) (by omega)]
    have : (k : Int) / (ts : Int) = 0 := Int.ediv_eq_zero_of_lt (by omega) (by omega)
    rw [this]; omega
theorem sumJ_drop {ts : Nat} (h : 1 ≤ ts) (a : List Int) : sumJ (ts : Int) ts (a.drop ts) = sumJ (ts : Int) 0 a := by
  rcases Nat.lt_or_ge a.length ts with hl | hl
  · rw [List.drop_eq_nil_of_le (by omega), sumJ_low h a 0 (by omega)]; rfl
  · have := sumJ_app (ts : Int) 0 (a.take ts) (a.drop ts)
    rw [List.take_append_drop, sumJ_low h (a.take ts) 0 (by rw [List.length_take]; omega), List.length_take, Nat.min_eq_left hl] at this
    rw [this]; simp
/-- what the counts say of the signs walked so far -/
def WInv (cnt : List Int) (b nt : Nat) (p : List Nat) : Prop := ∀ ts : Nat, 1 ≤ ts → colZ ts p = b + ts * (sumJ ts 0 cnt + nt)
theorem WInv.nil : WInv [] 0 0 [] := fun ts _ => by simp [colZ, sumJ]
theorem WInv.blank {cnt : List Int} {b nt c : Nat} {p : List Nat} (h : WInv cnt b nt p) (hc : c ≠ 9) : WInv cnt (b + 1) nt (p ++ [c]) := fun ts h1 => by
  rw [colZ_snoc, if_neg hc, h ts h1]; push_cast; omega
theorem WInv.tab {cnt : List Int} {b nt : Nat} {v : Int} {p : List Nat} (h : WInv cnt b nt p) (hv : cnt[b]? = some v) : WInv (cnt.set b (v + 1)) 0 (nt + 1) (p ++ [9]) := fun ts h1 => by
  rw [colZ_snoc, if_pos rfl, h ts h1, sumJ_set ts 0 cnt b v hv]
  have hz : (ts : Int) ≠ 0 := by omega
  rw [Int.add_mul_ediv_left _ _ hz]
  simp only [Nat.zero_add]
  push_cast
  generalize (b : Int) / (ts : Int) = q
  rw [Int.mul_comm, Int.zero_add]
  congr 1
  omega
theorem WInv.ext {cnt : List Int} {b nt n : Nat} {p : List Nat} (h : WInv cnt b nt p) : WInv (cnt ++ List.replicate n 0) b nt p := fun ts h1 => by
  rw [h ts h1, sumJ_app, sumJ_zeros]; simp
def wsp (l : List Nat) : List Nat := l.takeWhile fun c => c == 32 || c == 9
theorem wsp_all {l : List Nat} (h : ∀ a ∈ l, a = 32 ∨ a = 9) : wsp l = l := by
  unfold wsp
  induction l with
  | nil => rfl
  | cons x r ih =>
    rw [List.takeWhile_cons_of_pos (by rcases h x (List.mem_cons_self ..) with rfl | rfl <;> rfl), ih fun a ha => h a (List.mem_cons_of_mem _ ha)]
theorem wsp_stop {l : List Nat} {i c : Nat} (h : ∀ a ∈ l.take i, a = 32 ∨ a = 9) (hc : l[i]? = some c) (h1 : c ≠ 32) (h2 : c ≠ 9) : wsp l = l.take i := by
  have e : l = l.take i ++ c :: l.drop (i + 1) := by
    rw [← drop_at hc, List.take_append_drop]
  have hh : (c == 32 || c == 9) = false := by simp [h1, h2]
  conv => lhs; rw [e]
  unfold wsp
  rw [List.takeWhile_append_of_pos (fun a ha => by rcases h a ha with rfl | rfl <;> rfl), List.takeWhile_cons_of_neg (by simp [h1, h2]), List.append_nil]
theorem take_snoc {l : List Nat} {i c : Nat} (hc : l[i]? = some c) : l.take (i + 1) = l.take i ++ [c] := by simp [List.take_add_one, hc]
abbrev WSt := Addr × List Int × List Value × Nat × (Int × Tok) × (Int × Tok) × (Int × Tok)
theorem off_of {I x : Addr} {o : Obj} {rest : List (Addr × Obj)} (h : @Ne Nat x I) (hI : ∀ p ∈ rest, p.1 < I) : ∀ p ∈ (x, o) :: rest, p.1 ≠ I := fun p hp => by
  rcases List.mem_cons.mp hp with rfl | hp
  · exact h
  · exact Nat.ne_of_lt (hI p hp)
theorem getD_some {l : List Int} {b : Nat} (h : b < l.length) : l[b]? = some (l.getD b 0) := by
  rw [List.getD, List.getElem?_eq_getElem h]; rfl
theorem flat_zeros (n : Nat) : (List.replicate n [(0 : Int)]).flatten = List.replicate n 0 := by
  induction n with
  | zero => rfl
  | succ n ih => rw [List.replicate_succ, List.flatten_cons, ih]; rfl
abbrev tupO (vs : List Value) : Obj := { cls := .type "tuple", data := .seq vs.toArray }
abbrev whEs (w : World) (raw : Value) (n nt : Int) (tn tnt : Tok) (t2 : Addr) (sb : Bool) (k1 k2 k3 k4 k5 : Tok) : List DictEntry :=
  [⟨PyData.keyHash w.params (Str.ofString "raw"), .str (Str.ofString "raw") k1, raw⟩, ⟨PyData.keyHash w.params (Str.ofString "n"), .str (Str.ofString "n") k2, .int n tn⟩,
   ⟨PyData.keyHash w.params (Str.ofString "nt"), .str (Str.ofString "nt") k3, .int nt tnt⟩, ⟨PyData.keyHash w.params (Str.ofString "norm"), .str (Str.ofString "norm") k4, .ref t2⟩,
   ⟨PyData.keyHash w.params (Str.ofString "is_simple"), .str (Str.ofString "is_simple") k5, .bool sb⟩]
/-- what the nanny's object tells of the text -/
def Tells (l : List Nat) (cnt : List Int) (b nt : Nat) : Prop := (∀ ts : Nat, 1 ≤ ts → colZ ts (wsp l) = b + ts * (sumJ ts 0 cnt + nt)) ∧ b ≤ 1000 ∧ cnt.length ≤ 1001
theorem sumJ_snoc {ts : Int} {k i : Nat} {a : List Int} {v : Int} (h : a[i]? = some v) : sumJ ts k (a.take (i + 1)) = sumJ ts k (a.take i) + ((k + i : Nat) : Int) / ts * v := by
  have hlt : i < a.length := by
    rcases Nat.lt_or_ge i a.length with h' | h'
    · exact h'
    · rw [List.getElem?_eq_none h'] at h; cases h
  rw [List.take_add_one, h, Option.toList_some, sumJ_app, List.length_take, Nat.min_eq_left (by omega)]
  simp [sumJ]
end Mine
end
-- Re
section
open PySem PySem.W PySem.Calls PyProof.Rows PySem.Builtin PySem.Builtin.Re
set_option maxRecDepth 100000
set_option maxHeartbeats 4000000
namespace Mine
theorem pa_re : PlainAttrs "re.Pattern" :=
  ⟨⟨"object.__getattribute__", by rw [typeLookup_type, builtinLookup_eq_fast]; kernel_rfl, by decide +kernel⟩, by rw [typeLookup_type, builtinLookup_eq_fast]; kernel_rfl⟩
theorem slot_search : Slot "re.Pattern" "search" "re.Pattern.search" :=
  .of (owner := "re.Pattern") (n := "search") (by rw [typeLookup_type, builtinLookup_eq_fast]; kernel_rfl) (by decide +kernel) (by decide +kernel) (by decide +kernel)
    (by first | exact .inl (by decide +kernel) | exact .inr (by decide +kernel)) (by rw [isSubtype_type]; kernel_rfl)
theorem type_search : typeOf (.builtin "re.Pattern.search") = pure (.type "method_descriptor") := by show builtinType _ = _; rw [builtinType_eq_fast]; kernel_rfl
theorem entry_search : entryFor table "re.Pattern.search" = some Builtin.«re.Pattern.search» := entryFor_of_tree (by kernel_rfl)
theorem args_search (a b : Value) : argsOk "re.Pattern.search" ⟨[a, b], []⟩ := by unfold argsOk; kernel_rfl

/-- one sign that the pattern's first set does not take, at any count of the machine's words -/
def Off (code : Array Nat) (c : Nat) : Prop := ∀ seen : Sre.Seen, ∃ seen', Sre.inSet code c code.size 5 true seen = .ok (false, seen')
theorem admitted_none {m : Sre.M} (hoff : ∀ c ∈ m.text.toList, Off m.code c) (hlim : m.lim = m.text.size) : ∀ (fuel i : Nat) (seen : Sre.Seen), ∃ seen', Sre.M.admitted m fuel i seen = .ok (none, seen')
  | 0, _, seen => ⟨seen, rfl⟩
  | fuel + 1, i, seen => by
    unfold Sre.M.admitted
    by_cases h : i ≥ m.lim
    · rw [if_pos h]; exact ⟨seen, rfl⟩
    · rw [if_neg h]
      have hi : i < m.text.size := by omega
      have hc : m.text.getD i 0 = m.text[i] := by simp [Array.getD, hi]
      obtain ⟨seen', e⟩ := hoff (m.text.getD i 0) (by rw [hc]; simp) seen
      rw [e]
      exact admitted_none hoff hlim fuel (i + 1) seen'
theorem forSearch_fails {code text : Array Nat} (hset : ∀ m : Sre.M, m.code = code → m.hasFirstSet = true) (hoff : ∀ c ∈ text.toList, Off code c) :
    ((Sre.forSearch code text 0 0 text.size false).runFor 4).outcome = some .failed := by
  have fin : ∀ m : Sre.M, m.outcome = none → m.answer = some false → m.frames = [] → (m.runFor 4).outcome = some .failed := by
    intro m h1 h2 h3
    have e1 : m.step = { m with outcome := some .failed } := by
      unfold Sre.M.step
      rw [h1, h2, h3]
      rfl
    have e0 : m.outcome.isSome = false := by rw [h1]; rfl
    rw [Sre.M.runFor, if_neg (by rw [e0]; decide), e1]
    rfl
  obtain ⟨X, Y, C, e, x1, x2, y1, y2, y3, y4, y5⟩ : ∃ (X Y : Sre.M) (C : Bool), Sre.forSearch code text 0 0 text.size false = (if C = true then X.say false else Y.attemptFrom 0 true) ∧ X.outcome = none ∧ X.frames = [] ∧ Y.code = code ∧ Y.text = text ∧ Y.lim = text.size ∧ Y.outcome = none ∧ Y.frames = [] :=
    ⟨_, _, _, rfl, rfl, rfl, rfl, rfl, rfl, rfl, rfl⟩
  rw [e]
  cases C
  · rw [if_neg (by decide)]
    unfold Sre.M.attemptFrom
    rw [hset Y y1]
    obtain ⟨seen', h⟩ := admitted_none (m := Y) (by rw [y1, y2]; exact hoff) (by rw [y2, y3]) (Y.lim + 1 - 0) 0 Y.seen
    rw [if_neg (by decide), h]
    exact fin _ y4 rfl y5
  · rw [if_pos rfl]
    exact fin _ x1 rfl x2

section
variable {prog : Program} {w : World} {A : Around} {E : Value → Shared → Prop} {s : Shared}
theorem forIn_pass {α : Type} {M : Model} (b : α → PUnit → Sem (ForInStep PUnit)) (hb : ∀ a s (Q : ForInStep PUnit → Shared → Prop), Q (ForInStep.yield PUnit.unit) s → wpAny M A (b a PUnit.unit) Q E s) :
    ∀ (l : List α) {s : Shared} {Q : PUnit → Shared → Prop}, Q PUnit.unit s → wpAny M A (forIn l PUnit.unit b) Q E s
  | [], _, _, h => wpAny_pure h
  | a :: l, s, Q, h => by
    rw [List.forIn_cons]
    exact wpAny_bind (hb a s _ (forIn_pass b hb l h))
theorem search_none {p c : Addr} {o oc : Obj} {fs cs : Array Value} {n : Nat} {x : PySem.Str} {t : Tok} {Q : Value → Shared → Prop}
    (ho : s.heap.get? p = some o) (hcls : o.cls = .type "re.Pattern") (hd : o.data = .fields fs) (hc : s.heap.get? c = some oc) (hcd : oc.data = .seq cs n)
    (h5 : fs.getD 5 .none = .ref c) (h6 : reRawNat (fs.getD 6 .none) = 0) (h2 : reRawNat (fs.getD 2 .none) = 0)
    (hset : ∀ m : Sre.M, m.code = (cs.map reRawOf).map (·.toNat) → m.hasFirstSet = true) (hoff : ∀ a ∈ x.cps.toList, Off ((cs.map reRawOf).map (·.toNat)) a) (hx : x.cps.size < 2 ^ 62)
    (h : Q .none s) : wpAny (model prog w) A (call (.builtin "re.Pattern.search") [.ref p, .str x t]) Q E s := by
  have hT : s.TypeIs (.ref p) "re.Pattern" := ⟨_, ho, hcls⟩
  refine wpAny_call (codeAny_call_builtin slot_search.plain entry_search (slot_search.check _ _ _ _ _ _ _ _ hT (args_search _ _) ?_))
  unfold Builtin.«re.Pattern.search» reTarget
  refine wpAny_bind ?_
  have e1 : reNamed "re.Pattern.search" "search" ["string", "pos", "endpos"] 1 [.str x t] [] = pure [some (.str x t), none, none] := rfl
  refine wpAny_bind ?_
  rw [e1]
  refine wpAny_pure ?_
  refine wpAny_bind (wpAny_pure ?_)
  refine wpAny_bind (wpAny_pure ?_)
  refine wpAny_bind (wpAny_fieldsOf ho hd ?_)
  refine wpAny_bind (wpAny_of_eq (a := (x.cps, 0)) rfl ?_)
  dsimp only
  rw [h6, if_neg (by decide), if_neg (by decide), h2, h5]
  refine wpAny_bind (wpAny_pure ?_)
  unfold reRawItems
  refine wpAny_bind (wpAny_bind (wpAny_seqItems hc hcd (wpAny_pure ?_)))
  refine wpAny_pure ?_
  dsimp only [Option.getD]
  have ep : min (0 : Int).toNat x.cps.size = 0 := by simp
  have el : min ((2 : Int) ^ 63 - 1).toNat x.cps.size = x.cps.size := by
    have : ((2 : Int) ^ 63 - 1).toNat = 9223372036854775807 := by decide
    rw [this]; omega
  rw [ep, el]
  unfold reAnswer
  refine wpAny_bind ?_
  unfold reRunToEnd
  refine wpAny_bind ?_
  have hf := forSearch_fails hset hoff
  show wpAny _ _ (reDrive (18446744073709551615 + 1) _) _ _ _
  unfold reDrive
  dsimp only [reTurnSteps]
  generalize hm : (Sre.forSearch (Array.map (fun x => x.toNat) (Array.map reRawOf cs)) x.cps 0 0 x.cps.size false).runFor 4 = m at hf
  rw [if_pos (by rw [hf]; rfl)]
  refine wpAny_pure ?_
  refine wpAny_bind (forIn_pass _ ?_ _ ?_)
  · intro a s Q hq
    split
    · exact wpAny_bind (wpAny_rule (wpAny_pure hq))
    · exact wpAny_pure hq
  · rw [hf]
    exact wpAny_pure (wpAny_pure h)
end

theorem lit_dir : PySem.Str.ofString "dir" = T [100, 105, 114] := by decide +kernel
theorem lit_Dir : PySem.Str.ofString "Dir" = T [68, 105, 114] := by decide +kernel
theorem lit_t : PySem.Str.ofString "t" = T [116] := by decide +kernel
def cN : Array Nat := #[14, 10, 4, 1, 1, 22, 0, 31, 16, 127, 0, 13, 7, 22, 0, 31, 16, 127, 0, 1]
def cV : Array Nat := #[14, 14, 4, 1, 1, 9, 4294966783, 0, 0, 2147483648, 0, 0, 0, 0, 0, 13, 11, 9, 4294966783, 0, 0, 2147483648, 0, 0, 0, 0, 0, 1]
theorem setN (m : Sre.M) (h : m.code = cN) : m.hasFirstSet = true := by unfold Sre.M.hasFirstSet; rw [h]; rfl
theorem setV (m : Sre.M) (h : m.code = cV) : m.hasFirstSet = true := by unfold Sre.M.hasFirstSet; rw [h]; rfl
theorem offN {c : Nat} (h : c ∈ [68, 105, 114, 100, 116]) : Off cN c := by
  simp only [List.mem_cons, List.not_mem_nil, or_false] at h
  rcases h with rfl | rfl | rfl | rfl | rfl <;> exact fun seen => ⟨_, rfl⟩
theorem offV {c : Nat} (h : c ∈ [34, 92, 120]) : Off cV c := by
  simp only [List.mem_cons, List.not_mem_nil, or_false] at h
  rcases h with rfl | rfl | rfl <;> exact fun seen => ⟨_, rfl⟩
section
variable {prog : Program} {w : World} {A : Around} {E : Value → Shared → Prop} {s : Shared} {K : Frag} {h₀ : Heap} {L : Addr} {m : PySem.Str → Option Value}
theorem r_getSearch {M : Model} {p : Addr} {o : Obj} {pl : Sem Bool} {Q : Value × List Value → Shared → Prop} (F : Fr h₀ L s.heap m) (X₀ : K.In h₀) (ho : K.lookup p = some o) (hc : o.cls = .type "re.Pattern") (hd : o.dict = none)
    (h : Q (.builtin "re.Pattern.search", [.ref p]) s) : wpAny M A (getMethod (.ref p) (PySem.Str.ofString "search") pl) Q E s :=
  have h1 := (X₀.keeps F.keep) _ _ ho
  getMethod_builtin ⟨_, h1, hc⟩ pa_re slot_search type_search (fun a e => by cases e; exact ⟨_, h1, hd⟩) h
theorem r_search {p c : Addr} {o oc : Obj} {fs cs : Array Value} {n : Nat} {x : PySem.Str} {t : Tok} {l : List Nat} {Q : Value → Shared → Prop} (code : Array Nat) (hset : ∀ m : Sre.M, m.code = code → m.hasFirstSet = true)
    (F : Fr h₀ L s.heap m) (X₀ : K.In h₀) (ho : K.lookup p = some o) (hd : o.data = .fields fs) (h5 : fs.getD 5 .none = .ref c) (hc : K.lookup c = some oc) (hcd : oc.data = .seq cs n) (hcls : o.cls = .type "re.Pattern")
    (h6 : reRawNat (fs.getD 6 .none) = 0) (h2 : reRawNat (fs.getD 2 .none) = 0) (hcode : (cs.map reRawOf).map (·.toNat) = code)
    (hx : x = T l) (hoff : ∀ a ∈ l, Off code a) (hz : l.length ≤ 65536) (h : Q .none s) : wpAny (model prog w) A (call (.builtin "re.Pattern.search") [.ref p, .str x t]) Q E s := by
  subst hx
  have X := X₀.keeps F.keep
  exact search_none (X _ _ ho) hcls hd (X _ _ hc) hcd h5 h6 h2 (by rw [hcode]; exact hset) (by rw [hcode, T_list]; exact hoff)
    (by show (T l).length < _; rw [T_len]; omega) h
end
end Mine
end
-- Sx
section
open PySem PySem.W PyProof.Rows
set_option maxRecDepth 100000
namespace Mine
def repl (c : Nat) (z l : List Nat) : List Nat := l.flatMap fun a => if a = c then z else [a]
theorem repl_free (c : Nat) (z : List Nat) : ∀ l : List Nat, c ∉ l → repl c z l = l
  | [], _ => rfl
  | k :: r, h => by
    have h1 : k ≠ c := fun e => h (e ▸ List.mem_cons_self ..)
    show (if k = c then z else [k]) ++ repl c z r = k :: r
    rw [if_neg h1, repl_free c z r fun m => h (List.mem_cons_of_mem _ m)]
    rfl
theorem repl_app (c : Nat) (z a b : List Nat) : repl c z (a ++ b) = repl c z a ++ repl c z b := by simp [repl]
theorem repl_join (c : Nat) (z : Str) : ∀ parts : List Str, (∀ p ∈ parts, c ∉ p.cps.toList) → repl c z.cps.toList (Str.join ⟨#[c]⟩ parts).cps.toList = (Str.join z parts).cps.toList
  | [], _ => rfl
  | [p], h => repl_free c _ _ (h p (List.mem_singleton.mpr rfl))
  | p :: q :: r, h => by
    have ih := repl_join c z (q :: r) fun a ha => h a (List.mem_cons_of_mem _ ha)
    show repl c _ (p ++ ⟨#[c]⟩ ++ Str.join ⟨#[c]⟩ (q :: r)).cps.toList = (p ++ z ++ Str.join z (q :: r)).cps.toList
    simp only [PySem.Str.cps_append, Array.toList_append, repl_app]
    rw [ih, repl_free c _ _ (h p (List.mem_cons_self ..))]
    simp [repl]
theorem replace_T (c : Nat) (z l : List Nat) : Txt.replace (T l) (T [c]) (T z) = T (repl c z l) := by
  have h : (Txt.replace (T l) ⟨#[c]⟩ (T z)).cps.toList = repl c z l := by
    rw [StrLaws.replace_one]
    have h1 := repl_join c (T z) _ (StrLaws.split_free (T l) c)
    rw [StrLaws.join_split, T_list, T_list] at h1
    exact h1.symm
  exact (T_of _).trans (congrArg T h)
section
variable {prog : Program} {w : World} {A : Around} {E : Value → Shared → Prop} {s : Shared} {x y z : PySem.Str} {t u v : Tok} {Q : Value → Shared → Prop}
theorem r_replace {l zs res : List Nat} {c : Nat} (hu : u ≠ 0) (hv : v ≠ 0) (huv : u ≠ v) (hx : x = T l) (hy : y = T [c]) (hz : z = T zs) (hyz : ([c] == zs) = false) (hl : l.length ≤ 65536) (hzs : zs.length ≤ 14) (e : repl c zs l = res)
    (h : ∀ t' k, s.toks ≤ k → Q (.str (T res) t') { s with toks := k }) : wpAny (model prog w) A (call (.builtin "str.replace") [.str x t, .str y u, .str z v]) Q E s := by
  subst hx hy hz e
  refine wpAny_with_toks (n := s.toks) (Nat.le_refl _) ?_
  refine SC.replaceW hu hv huv (by rw [T_beq]; exact hyz) (by rw [T_len]; omega) (by rw [T_len]; exact hzs) ?_
  intro t' k hk
  rw [replace_T]
  exact h t' k hk
end
section
variable {prog : Program} {w : World} {A : Around} {E : Value → Shared → Prop} {s : Shared} {x y : PySem.Str} {t tv : Tok} {Q : Value → Shared → Prop}
theorem r_join1 {D : Addr} {items : Array Value} {l : List Nat} (hl : s.heap.IsList D items) (hi : items = #[.str y tv]) (hx : x.length ≤ 16) (hy : y = T l) (hz : l.length ≤ 65536)
    (h : ∀ t' k, Q (.str (T l) t') { s with toks := k }) : wpAny (model prog w) A (call (.builtin "str.join") [.str x t, .ref D]) Q E s := by
  subst hi hy
  refine join_listW (ys := [T l]) hl (.cons _ _ .nil) hx (by simp only [List.map_cons, List.map_nil, List.sum_cons, List.sum_nil, List.length_cons, List.length_nil, T_len]; omega) ?_
  exact h
end
theorem repl_len {c : Nat} {z : List Nat} (hz : z.length ≤ 2) : ∀ l : List Nat, (repl c z l).length ≤ 2 * l.length
  | [] => by simp [repl]
  | k :: r => by
    have ih := repl_len (c := c) hz r
    show ((if k = c then z else [k]) ++ repl c z r).length ≤ _
    rw [List.length_append, List.length_cons]
    split
    · omega
    · simp only [List.length_cons, List.length_nil]; omega
theorem repl_esc (l : List Nat) : repl 34 [92, 34] (repl 92 [92, 92] l) = l.flatMap fun c => if c = 92 then [92, 92] else if c = 34 then [92, 34] else [c] := by
  induction l with
  | nil => rfl
  | cons k r ih =>
    show repl 34 [92, 34] ((if k = 92 then [92, 92] else [k]) ++ repl 92 [92, 92] r) = _
    rw [repl_app, ih, List.flatMap_cons]
    congr 1
    by_cases h : k = 92
    · subst h; rfl
    · rw [if_neg h, if_neg h]
      show (if k = 34 then [92, 34] else [k]) ++ [] = _
      rw [List.append_nil]
theorem repl_t : repl 95 [45] [116] = [116] := rfl
theorem lit_us : PySem.Str.ofString "_" = T [95] := by decide +kernel
theorem lit_eqq : PySem.Str.ofString "=\"" = T [61, 34] := by decide +kernel
theorem lit_sc : PySem.Str.ofString "; " = T [59, 32] := by decide +kernel
theorem lit_teq : PySem.Str.ofString "t=\"" = T [116, 61, 34] := by decide +kernel
theorem lit_mi : PySem.Str.ofString "-" = T [45] := by decide +kernel
end Mine
end
-- La
section
open PySem PySem.W PyProof.Rows
namespace Mine
structure Mark : Prop where
theorem mark : Mark := ⟨⟩
def IfQ (h₀ : Heap) (L : Addr) (m : Str → Option Value) (led : List (Addr × Obj)) (s : Shared) (P : List Int → Prop) (v : Value) (s' : Shared) : Prop :=
  ∃ D ws ns n h' tk', v = .ref D ∧ s' = { s with heap := h', toks := tk' } ∧ IntsAre ws ns ∧ P ns ∧ Fr h₀ L h' m ∧ News h₀ L h' ((D, W.listOf ws.toArray n) :: led) ∧ (∀ p ∈ led, p.1 < D)
theorem IfQ.intro {h₀ : Heap} {L : Addr} {m : Str → Option Value} {led : List (Addr × Obj)} {s : Shared} {P : List Int → Prop} {D : Addr} {ws : List Value} {ns : List Int} {n : Nat} {h' : Heap} {tk' : Nat} {all : List (Addr × Obj)}
    (hi : IntsAre ws ns) (hP : P ns) (F : Fr h₀ L h' m) (N : News h₀ L h' all) (hs : ∀ p ∈ (D, W.listOf ws.toArray n) :: led, p ∈ all) (hl : ∀ p ∈ led, p.1 < D) : IfQ h₀ L m led s P (.ref D) { s with heap := h', toks := tk' } :=
  ⟨D, ws, ns, n, h', tk', rfl, rfl, hi, hP, F, fun p hp => N p (hs p hp), hl⟩
section
variable {M : Model} {A : Around} {E : Value → Shared → Prop} {s : Shared} {h₀ : Heap} {L : Addr} {m : Str → Option Value} {led : List (Addr × Obj)} {Q : Value → Shared → Prop}
theorem r_if {e : PySem.Expr} {env : Env} (P : List Int → Prop) (_F : Fr h₀ L s.heap m) (_N : News h₀ L s.heap led)
    (h1 : wpAny M A (eval e env) (IfQ h₀ L m led s P) E s)
    (h2 : ∀ D ws ns n h' tk', IntsAre ws ns → P ns → Fr h₀ L h' m → News h₀ L h' ((D, W.listOf ws.toArray n) :: led) → (∀ p ∈ led, p.1 < D) → Q (.ref D) { s with heap := h', toks := tk' }) : wpAny M A (eval e env) Q E s := by
  refine wpAny_mono h1 (fun v s' hq => ?_) fun _ _ x => x
  obtain ⟨D, ws, ns, n, h', tk', rfl, rfl, hi, hP, F, N, hl⟩ := hq
  exact h2 D ws ns n h' tk' hi hP F N hl
end
section
variable {prog : Program} {w : World} {A : Around} {h₀ : Heap} {L : Addr} {m : Str → Option Value} {env : Env} {elt : PySem.Expr} {x : Str} {scope : Scope} {cl : List (Str × Addr)} {s : Shared} {S : List (Addr × Obj) → Prop} {P : Nat → Value → Prop} {Fin : List Value → List (Addr × Obj) → Prop} {news : List (Addr × Obj)}
/-- a row of texts made from a row of things, one each -/
theorem txt_rest {α : Type} (ks : List α) (src : α → Value → Prop) (g : α → List Nat) {n : Nat} (hn : n = ks.length) (hP : ∀ i v, P i v → ∃ k, ks[i]? = some k ∧ src k v)
    (turn : ∀ k v I oI C oC D m₂ ys h tk (E' : Value → Shared → Prop), k ∈ ks → src k v → LCg.NsObj oC m₂ → m₂ x = some v → Fr h₀ L h m → News h₀ L h ((I, oI) :: (C, oC) :: (D, LCg.lst ys) :: news) → LCg.Off3 I C D news → ((@Ne Nat I C) ∧ (@Ne Nat I D) ∧ (@Ne Nat C D)) →
      wpAny (model prog w) A (eval elt (compEnvC scope cl C env)) (LCg.CompEnd h₀ L m { s with heap := h, toks := tk } I oI C oC D (LCg.lst ys) S (fun y news' => news' = news ∧ ∃ t, y = .str (T (g k)) t)) E' { s with heap := h, toks := tk })
    (fin : ∀ ys, StrsAre ys ((ks.map g).map T) → Fin ys news) : LCg.CompRest prog w A h₀ L m env elt x scope cl s S P Fin n 0 [] news := by
  subst hn
  have key : ∀ (j i : Nat) (ys : List Value), i + j = ks.length → StrsAre ys (((ks.take i).map g).map T) → LCg.CompRest prog w A h₀ L m env elt x scope cl s S P Fin j i ys news := by
    intro j
    induction j with
    | zero =>
      intro i ys hi hy
      have e : i = ks.length := by omega
      subst e
      rw [List.take_length] at hy
      exact LCg.CompRest.zero (fin ys hy)
    | succ j ih =>
      intro i ys hi hy
      refine LCg.CompRest.succ ?_
      intro v I oI C oC D m₂ h tk E' hv hC hx F N off ne
      obtain ⟨k, hk, hv'⟩ := hP i v hv
      refine wpAny_mono (turn k v I oI C oC D m₂ ys h tk E' (List.mem_of_getElem? hk) hv' hC hx F N off ne) (fun y s₂ hq => ?_) fun _ _ e => e
      obtain ⟨h', tk', nw, e, F', N', off', hS, hn, t', hy'⟩ := hq
      subst hn
      refine ⟨h', tk', nw, e, F', N', off', hS, ?_⟩
      rw [hy']
      refine ih (i + 1) _ (by omega) ?_
      rw [List.take_add_one, hk]
      simpa using kct_snoc hy
  exact key ks.length 0 [] (by omega) .nil
end
/-- the sign that a number stands for -/
def sgn (k : Int) : Nat := [120, 92, 34, 92].getD (k.fmod 4).toNat 0
theorem fm4 (k : Int) : 0 ≤ k.fmod 4 ∧ k.fmod 4 < 4 := ⟨Int.fmod_nonneg_of_pos _ (by decide), Int.fmod_lt_of_pos _ (by decide)⟩
theorem sgn_get (k : Int) : [120, 92, 34, 92][(k.fmod 4).toNat]? = some (sgn k) := by
  have h := fm4 k
  unfold sgn
  rw [List.getD_eq_getElem?_getD, List.getElem?_eq_getElem (by simp only [List.length_cons, List.length_nil]; omega)]
  rfl
theorem sgn_in (k : Int) : sgn k ∈ [34, 92, 120] := by
  have h := fm4 k
  unfold sgn
  generalize k.fmod 4 = a at h
  have : a = 0 ∨ a = 1 ∨ a = 2 ∨ a = 3 := by omega
  rcases this with rfl | rfl | rfl | rfl <;> decide
theorem flat_sgn : ∀ ns : List Int, (ns.map fun k => [sgn k]).flatten = ns.map sgn
  | [] => rfl
  | a :: r => by rw [List.map_cons, List.flatten_cons, flat_sgn r]; rfl
theorem join_T : ∀ ps : List (List Nat), Str.join (T []) (ps.map T) = T ps.flatten
  | [] => rfl
  | [p] => by simp [Str.join]
  | p :: q :: r => by
    have ih := join_T (q :: r)
    show T p ++ T [] ++ Str.join (T []) ((q :: r).map T) = _
    rw [ih, T_app, T_app]
    simp
theorem split_first {l : List Nat} {c : Nat} {ps : List Str} (h : ps = Txt.split (T l) (T [c])) : ∃ r, ps = T (l.takeWhile (· != c)) :: r := by
  have h1 := StrLaws.join_split (T l) (T [c])
  have h2 := StrLaws.split_free (T l) c
  have h3 := split_pos (T l) (T [c])
  change ∀ p ∈ Txt.split (T l) (T [c]), _ at h2
  rw [← h] at h1 h2 h3
  have tw : ∀ p : List Nat, c ∉ p → ∀ r, (p ++ c :: r).takeWhile (· != c) = p ∧ p.takeWhile (· != c) = p := by
    intro p hp r
    induction p with
    | nil => simp
    | cons a p ih =>
      have ha : a ≠ c := fun e => hp (e ▸ List.mem_cons_self ..)
      have := ih fun m => hp (List.mem_cons_of_mem _ m)
      simp [ha, this]
  match ps, h1, h2, h3 with
  | [], _, _, h3 => exact absurd h3 (by simp)
  | [p], h1, h2, _ =>
    refine ⟨[], ?_⟩
    have h4 : p = T l := h1
    have h5 := h2 p (List.mem_cons_self ..)
    rw [h4, T_list] at h5
    rw [(tw l h5 []).2, h4]
  | p :: q :: r, h1, h2, _ =>
    refine ⟨q :: r, ?_⟩
    have h5 := h2 p (List.mem_cons_self ..)
    have h4 : p ++ T [c] ++ Str.join (T [c]) (q :: r) = T l := h1
    rw [T_of p, T_of (Str.join (T [c]) (q :: r)), T_app, T_app] at h4
    have h6 := T_inj h4
    rw [← h6, List.append_assoc, List.singleton_append, (tw _ h5 _).1, ← T_of]
section
variable {prog : Program} {w : World} {A : Around} {E : Value → Shared → Prop} {s : Shared} {value slice : PySem.Expr} {x y : PySem.Str} {t u : Tok} {h₀ : Heap} {L : Addr} {m : PySem.Str → Option Value} {news : List (Addr × Obj)} {Q : Value → Shared → Prop}
theorem r_joinE {D : Addr} {ys : List Value} {ps : List (List Nat)} {l : List Nat} (hl : s.heap.IsList D ys.toArray) (hi : StrsAre ys (ps.map T)) (hx : x = T []) (hl' : ps.flatten = l) (hp : ps.length ≤ 65536) (hz : l.length ≤ 65536)
    (h : ∀ t' k, Q (.str (T l) t') { s with toks := k }) : wpAny (model prog w) A (call (.builtin "str.join") [.str x t, .ref D]) Q E s := by
  subst hx hl'
  refine join_listW (ys := ps.map T) hl hi (by decide) ?_ ?_
  · rw [List.map_map, List.length_map]
    have : (ps.map (fun p => (T p).length)).sum = ps.flatten.length := by
      rw [List.length_flatten]
      exact congrArg List.sum (List.map_congr_left fun p _ => T_len p)
    show (ps.map (fun p => (T p).length)).sum + _ ≤ _
    omega
  · intro t' k
    have e : Txt.join (T []) (ps.map T) = T ps.flatten := by
      show Builtin.Str.glued (T []) (ps.map T) = _
      rw [StrLaws.glued_eq_join, join_T]
    rw [e]
    exact h t' k
theorem r_split {l : List Nat} {c : Nat} (hF : Fr h₀ L s.heap m) (hN : News h₀ L s.heap news) (hx : x = T l) (hy : y = T [c]) (hz : l.length ≤ 65536)
    (h : ∀ D vs r h' k, StrsAre vs (T (l.takeWhile (· != c)) :: r) → Fr h₀ L h' m → News h₀ L h' ((D, W.listOf vs.toArray 0) :: news) → (∀ p ∈ news, p.1 < D) → Q (.ref D) { s with heap := h', toks := k }) :
    wpAny (model prog w) A (call (.builtin "str.split") [.str x t, .str y u]) Q E s := by
  subst hx hy
  refine KSpl.split1 hF hN rfl ?_ (by rw [T_len, sizeLine_eq]; omega)
  intro D vl h' k hv hS F N lt
  obtain ⟨r, e⟩ := split_first hv
  rw [e] at hS
  exact h D _ r h' k hS F N lt
theorem r_first {D : Addr} {vs : List Value} {l : List Nat} {r : List Str} (hl : s.heap.IsList D vs.toArray) (hv : StrsAre vs (T l :: r)) (h : ∀ t', Q (.str (T l) t') s)
    (hs : subscripted slice false (.ref D) (.int 0 u) = operate [.ref D, .int 0 u] (getItem (.ref D) (.int 0 u))) :
    wpAny (model prog w) A (subscriptTail value slice (.ref D) (.int 0 u)) Q E s :=
  KTb.item_list hl hv (Int.le_refl _) (by rw [List.length_cons]; omega) (by decide) (fun t' _ => h t') hs
theorem r_last {D : Addr} {vs : List Value} {v : Value} (hl : s.heap.IsList D vs.toArray) (hv : vs.getLast? = some v) (hz : vs.length ≤ 65536) (h : Q v s)
    (hs : subscripted slice false (.ref D) (.int (-1) u) = operate [.ref D, .int (-1) u] (getItem (.ref D) (.int (-1) u))) :
    wpAny (model prog w) A (subscriptTail value slice (.ref D) (.int (-1) u)) Q E s := by
  have hne : vs ≠ [] := fun e => by rw [e] at hv; cases hv
  have hpos : 0 < vs.length := List.length_pos_iff.mpr hne
  refine tail_any hl.typeIs slot_list_getitem.lookup (wpAny_getItem_list_neg hl (by decide) (by rw [List.size_toArray]; omega) (by decide) ?_ h) hs
  rw [List.size_toArray, List.getElem?_toArray]
  have : (-1 + (vs.length : Int)).toNat = vs.length - 1 := by omega
  rw [this, ← List.getLast?_eq_getElem?]
  exact hv
end
end Mine
end
-- Lb
section
open PySem PySem.W PySem.Calls PyProof.Rows PySem.Spec
namespace Mine
structure Mark2 : Prop where
theorem mark2 : Mark2 := ⟨⟩
section
variable {prog : Program} {w : World} {A : Around} {E : Value → Shared → Prop} {s : Shared} {env : Env} {h₀ : Heap} {x : PySem.Str} {body : List Stmt} {Q : Flow → Shared → Prop}
theorem iter_rangeW {r : Addr} {a₀ b₀ : Int} {t₀ u₀ v₀ : Tok} {n : Nat} {m₀ : PySem.Str → Option Value} {news : List (Addr × Obj)} (J : Nat → (PySem.Str → Option Value) → List (Addr × Obj) → Prop)
    (hh : A.handled = none) (hr : IsRange s.heap r a₀ b₀ 1 t₀ u₀ v₀) (hsmall : Builtin.Range.small a₀ b₀ 1 = true) (hn : Builtin.Range.rangeSize a₀ b₀ 1 = (n : Int)) (F : Fr h₀ env.locals s.heap m₀) (N : News h₀ env.locals s.heap news) (hj : J 0 m₀ news)
    (turn : ∀ (I : Addr), (∀ p ∈ news, p.1 < I) → ∀ i t m₁ news₁ (it : Obj) h tk, i < n → (∀ p ∈ news₁, p.1 ≠ I) → J i m₁ news₁ →
      Fr h₀ env.locals h (fun y => if y = x then some (.int (a₀ + (i : Int)) t) else m₁ y) → News h₀ env.locals h ((I, it) :: news₁) →
      wpAny (model prog w) A (execs body env) (UnrPost h₀ env.locals { s with heap := h, toks := tk } I it (J (i + 1)) Q) E { s with heap := h, toks := tk })
    (done : ∀ m₁ news₁ h tk, J n m₁ news₁ → Fr h₀ env.locals h m₁ → News h₀ env.locals h news₁ → Q .next { s with heap := h, toks := tk }) :
    wpAny (model prog w) A (pyIter (.ref r)) (fun it s₂ => LoopAtV prog w A h₀ env x body Q E it s₂) E s := by
  refine wpAny_pyIter_range hr hsmall ?_
  have W : Walks prog w A s.heap.objs.size [s.heap.objs.size] [s.heap.objs.size] n (fun i v => i < n ∧ ∃ t, v = .int (a₀ + i * 1) t)
      (fun i h => IsRangeIter h s.heap.objs.size (a₀ + (i : Nat) * 1) ((n : Int) - (i : Nat)) 1) := (Walks.range hh _ a₀ 1 n).bound
  have hnew := next_is_new F
  have turn' := turn s.heap.objs.size fun p hp => Heap.lt_size (N p hp).1
  refine ⟨_, _, _, n, _, _, m₀, news, J, rfl, W, ?_, ?_, ?_, (by show IsRangeIter _ _ _ _ _; rw [hn]; simpa using Heap.get?_push_size _ rfl), F.push _, (fun p hp => ⟨Heap.get?_push_of_some _ (N p hp).1, (N p hp).2⟩), hj, ?_, ?_⟩
  · intro hm
    exact absurd F.ns.lt ((List.mem_singleton.mp hm) ▸ Nat.lt_irrefl _)
  · intro b hb
    rw [List.mem_singleton.mp hb]
    exact hnew
  · intro p hp hI
    exact absurd (Heap.lt_size (N p hp).1) ((List.mem_singleton.mp hI) ▸ Nat.lt_irrefl _)
  · rintro i v m₁ news₁ s₁ own ⟨hh', tk', rfl⟩ hin ⟨hi, t, rfl⟩ hJ hoff hown hget hall hit F₁ N₁
    obtain ⟨it, hit⟩ : ∃ o, hh'.get? s.heap.objs.size = some o := ⟨_, hit⟩
    have e1 : a₀ + (i : Int) * 1 = a₀ + (i : Int) := by omega
    rw [e1] at F₁
    have hmemI := hall s.heap.objs.size (List.mem_cons_self ..) hnew _ hit
    have N₂ : News h₀ env.locals hh' ((s.heap.objs.size, it) :: news₁) := fun p hp => by
      rcases List.mem_cons.mp hp with rfl | hp
      · exact N₁ _ (List.mem_append_left _ hmemI)
      · exact N₁ _ (List.mem_append_right _ hp)
    refine wpAny_mono (turn' i t m₁ news₁ it hh' tk' hi (fun p hp e => hoff p hp (by rw [e]; exact List.mem_cons_self ..)) hJ F₁ N₂) (fun f s₂ p => ?_) fun _ _ e => e
    have fin : UnrEnd h₀ env.locals { s with heap := hh', toks := tk' } s.heap.objs.size it (J (i + 1)) s₂ →
        LoopStepU h₀ env.locals [s.heap.objs.size] own (J (i + 1)) { s with heap := hh', toks := tk' } .next s₂ := by
      rintro ⟨h', tk, m', news', e, F', N', ho, hmm⟩
      refine ⟨rfl, h', tk, m', news', e, F', fun p hp => ?_, fun p hp hI => ho p hp (List.mem_singleton.mp hI), hmm⟩
      rcases List.mem_append.mp hp with hp | hp
      · have h2 : hh'.get? p.1 = some p.2 := hget p hp
        have h1 := List.mem_singleton.mp (hown p hp)
        have h3 : p = (s.heap.objs.size, it) := by
          rw [h1, hit] at h2
          exact Prod.ext h1 (Option.some.inj h2).symm
        rw [h3]; exact N' _ (List.mem_cons_self ..)
      · exact N' _ (List.mem_cons_of_mem _ hp)
    cases f with
    | ret v => exact .ret p
    | brk => exact .brk p
    | next => exact .next (fin p)
    | cont => exact .cont (fin p)
  · rintro h' tk m' news' F' N' _ hJ
    exact done m' news' h' tk hJ F' N'
theorem kst_rangeW {σ : Type} {r : Addr} {a₀ b₀ : Int} {t₀ u₀ v₀ : Tok} {n : Nat} {m₀ : PySem.Str → Option Value} {news : List (Addr × Obj)} (Led : σ → List (Addr × Obj)) (ps : σ → List (PySem.Str × Value)) (stored : List PySem.Str) (P : Nat → σ → Prop) (c₀ : σ)
    (hh : A.handled = none) (hr : IsRange s.heap r a₀ b₀ 1 t₀ u₀ v₀) (hsmall : Builtin.Range.small a₀ b₀ 1 = true) (hn : Builtin.Range.rangeSize a₀ b₀ 1 = (n : Int)) (F : Fr h₀ env.locals s.heap m₀) (N₀ : News h₀ env.locals s.heap news) (hs : ∀ p ∈ Led c₀, p ∈ news) (hk : ∀ p ∈ ps c₀, m₀ p.1 = some p.2) (hp : P 0 c₀)
    (turn : ∀ (I : Addr), (∀ p ∈ Led c₀, p.1 < I) → ∀ (c : σ) i t (u : PySem.Str → Option Value) (it : Obj) h tk, i < n → (∀ p ∈ Led c, p.1 ≠ I) → P i c →
      Fr h₀ env.locals h (fun y => if y = x then some (.int (a₀ + (i : Int)) t) else kstB (fun z => if stored.contains z then u z else m₀ z) (ps c) y) → News h₀ env.locals h ((I, it) :: Led c) →
      wpAny (model prog w) A (execs body env) (UnrPost h₀ env.locals { s with heap := h, toks := tk } I it (KstW Led ps x stored m₀ P (i + 1)) Q) E { s with heap := h, toks := tk })
    (done : ∀ (c : σ) (u : PySem.Str → Option Value) h tk, P n c → Fr h₀ env.locals h (fun y => if y = x then u y else kstB (fun z => if stored.contains z then u z else m₀ z) (ps c) y) → News h₀ env.locals h (Led c) → Q .next { s with heap := h, toks := tk }) :
    wpAny (model prog w) A (pyIter (.ref r)) (fun it s₂ => LoopAtV prog w A h₀ env x body Q E it s₂) E s := by
  refine iter_rangeW (KstW Led ps x stored m₀ P) hh hr hsmall hn F (fun p hp => N₀ p (hs p hp)) ⟨c₀, rfl, hk, fun _ _ _ _ => rfl, hp⟩ ?_ ?_
  · rintro I hI i t m₁ news₁ it h tk hi hoff ⟨c, rfl, h1, h2, hp'⟩ F₁ N₁
    exact turn I hI c i t m₁ it h tk hi hoff hp' (kst_fr h1 h2 F₁) N₁
  · rintro m₁ news₁ h tk ⟨c, rfl, h1, h2, hp'⟩ F₁ N₁
    exact done c m₁ h tk hp' (kst_frOut h1 h2 F₁) N₁
end
/-- where the two ways of a statement meet again -/
def JoinQ {σ : Type} (h₀ : Heap) (L : Addr) (Led : σ → List (Addr × Obj)) (mp : σ → PySem.Str → Option Value) (P : σ → Prop) (s : Shared) (f : Flow) (s' : Shared) : Prop :=
  f = .next ∧ ∃ c h' tk', s' = { s with heap := h', toks := tk' } ∧ 0 < tk' ∧ Fr h₀ L h' (mp c) ∧ News h₀ L h' (Led c) ∧ P c
theorem JoinQ.intro {σ : Type} {h₀ : Heap} {L : Addr} {m' : PySem.Str → Option Value} {Led : σ → List (Addr × Obj)} {mp : σ → PySem.Str → Option Value} {P : σ → Prop} {s : Shared} (c : σ) {h' : Heap} {tk' : Nat} {all : List (Addr × Obj)}
    (F : Fr h₀ L h' m') (he : ∀ y, m' y = mp c y) (N : News h₀ L h' all) (hs : ∀ p ∈ Led c, p ∈ all) (hP : P c) (hp : 0 < tk') : JoinQ h₀ L Led mp P s .next { s with heap := h', toks := tk' } :=
  ⟨rfl, c, h', tk', rfl, hp, (funext he : m' = mp c) ▸ F, fun p hp => N p (hs p hp), hP⟩
theorem r_meet {σ : Type} {M : Model} {A : Around} {E : Value → Shared → Prop} {s : Shared} {h₀ : Heap} {L : Addr} {Q : Flow → Shared → Prop} {st : Stmt} {env : Env} (Led : σ → List (Addr × Obj)) (mp : σ → PySem.Str → Option Value) (P : σ → Prop) {m : PySem.Str → Option Value} (_F : Fr h₀ L s.heap m)
    (h1 : wpAny M A (exec st env) (JoinQ h₀ L Led mp P s) E s)
    (h2 : ∀ c h' tk', 0 < tk' → Fr h₀ L h' (mp c) → News h₀ L h' (Led c) → P c → Q .next { s with heap := h', toks := tk' }) : wpAny M A (exec st env) Q E s := by
  refine wpAny_mono h1 (fun f s' hq => ?_) fun _ _ e => e
  obtain ⟨rfl, c, h', tk', rfl, hp, F, N, hP⟩ := hq
  exact h2 c h' tk' hp F N hP
end Mine
end
-- Le
section
open PySem PySem.W PyProof.Rows
namespace Mine
def esc (l : List Nat) : List Nat := l.flatMap fun c => if c = 92 then [92, 92] else if c = 34 then [92, 34] else [c]
def fr (l : List Nat) : List Nat := l.takeWhile (· != 34)
def bh (l : List Nat) : List Nat := l.drop (fr l).length
def more (l : List Nat) (m : Nat) : Nat := if m ≤ 1 then 0 else if bh l = [34] then m - 1 else if bh l = [] then 0 else m / 2
def due (l : List Nat) (m : Nat) : List Nat :=
  if m ≤ 1 then l else (fr l).flatMap (fun a => if a = 92 then List.replicate m 92 else [a]) ++ (if bh l = [34] then List.replicate (m - 1) 92 ++ [34] else if bh l = [] then [] else List.replicate (m / 2) 92)
/-- the numbers that the rounds reach -/
def Pow (m i : Nat) : Prop := 1 ≤ m ∧ m ≤ 2 ^ i ∧ (m = 1 ∨ m % 2 = 0)
end Mine
end
-- W9
section
open PySem PySem.W PyProof.Rows
set_option maxRecDepth 100000
set_option maxHeartbeats 8000000
namespace Mine
abbrev Ent := Addr × Tok × List Nat × Tok
abbrev entO (e : Ent) : Obj := tupO [.str (Str.ofString "Dir") e.2.1, .str (T e.2.2.1) e.2.2.2]
abbrev hdEs (w : World) (li : Addr) (k : Tok) : List DictEntry := [⟨PyData.keyHash w.params (Str.ofString "_headers"), .str (Str.ofString "_headers") k, .ref li⟩]
section
variable {prog : Program} {w : World} {A : Around} {E : Value → Shared → Prop} {s : Shared} {h₀ : Heap} {L : Addr} {m : Str → Option Value} {env : Env}
theorem kce_rest {α : Type} {ct elt : PySem.Expr} {x : Str} {scope : Scope} {cl : List (Str × Addr)} {S : List (Addr × Obj) → Prop} {P : Nat → Value → Prop} {Fin : List Value → List (Addr × Obj) → Prop} {news : List (Addr × Obj)} {n : Nat}
    (es : List α) (src g : α → Value) (hn : n = es.length) (hP : ∀ i v, P i v → ∃ e, es[i]? = some e ∧ v = src e)
    (turn : ∀ e I oI C oC D m₂ ys h tk (E' : Value → Shared → Prop), e ∈ es → LCg.NsObj oC m₂ → m₂ x = some (src e) → Fr h₀ L h m → News h₀ L h ((I, oI) :: (C, oC) :: (D, LCg.lst ys) :: news) → LCg.Off3 I C D news → ((@Ne Nat I C) ∧ (@Ne Nat I D) ∧ (@Ne Nat C D)) →
      wpAny (model prog w) A (isTrue ct (compEnvC scope cl C env) (eval ct (compEnvC scope cl C env))) (fun b s' => if b = true then wpAny (model prog w) A (eval elt (compEnvC scope cl C env)) (LCg.CompEnd h₀ L m { s with heap := h, toks := tk } I oI C oC D (LCg.lst ys) S (fun y news' => news' = news ∧ y = g e)) E' s'
        else LCg.CompEnd h₀ L m { s with heap := h, toks := tk } I oI C oC D (LCg.lst ys) S (fun _ _ => False) Value.none s') E' { s with heap := h, toks := tk })
    (fin : Fin (es.map g) news) : LCt.CompRestT prog w A h₀ L m env ct elt x scope cl s S P Fin n 0 [] news := by
  subst hn
  have key : ∀ (j i : Nat) (ys : List Value), i + j = es.length → ys = (es.take i).map g → LCt.CompRestT prog w A h₀ L m env ct elt x scope cl s S P Fin j i ys news := by
    intro j
    induction j with
    | zero =>
      intro i ys hi hy
      have e : i = es.length := by omega
      subst e
      rw [List.take_length] at hy
      subst hy
      exact LCt.CompRestT.zero fin
    | succ j ih =>
      intro i ys hi hy
      refine LCt.CompRestT.succ ?_
      intro v I oI C oC D m₂ h tk E' hv hC hx F N off ne
      obtain ⟨e, he, hv'⟩ := hP i v hv
      rw [hv'] at hx
      refine wpAny_mono (turn e I oI C oC D m₂ ys h tk E' (List.mem_of_getElem? he) hC hx F N off ne) (fun b s₂ hq => ?_) fun _ _ e => e
      cases b with
      | true =>
        simp only [if_true] at hq ⊢
        refine wpAny_mono hq (fun y s₃ hr => ?_) fun _ _ e => e
        obtain ⟨h', tk', nw, e1, F', N', off', hS, hn, hy'⟩ := hr
        subst hn
        refine ⟨h', tk', nw, e1, F', N', off', hS, ?_⟩
        refine ih (i + 1) _ (by omega) ?_
        rw [List.take_add_one, he, List.map_append, ← hy, hy']
        rfl
      | false =>
        simp only [Bool.false_eq_true, if_false] at hq ⊢
        obtain ⟨h', tk', nw, e1, F', N', off', hS, hf⟩ := hq
        exact hf.elim
  exact key es.length 0 [] (by omega) rfl
end
end Mine
end
-- Lf
section
open PySem PySem.W PyProof.Rows
namespace Mine
/-- what a round of the law changes -/
structure LS where
  rd : List Nat
  tr : Tok
  m : Nat
  es : List Ent
  ep : Nat
  oc : Obj
abbrev ledL (w : World) (x dx li ce : Addr) (k : Tok) (c : LS) : List (Addr × Obj) :=
  (x, instObj 280 dx) :: (dx, dictOf (hdEs w li k) 1) :: (li, W.listOf (c.es.map fun e => Value.ref e.1).toArray c.ep) :: (ce, c.oc) :: c.es.map fun e => (e.1, entO e)
def LP (l0 : List Nat) (x : Addr) (i : Nat) (c : LS) : Prop :=
  c.rd = due l0 c.m ∧ Pow c.m i ∧ c.es.length ≤ i ∧ (∃ t, c.oc.data = .cell (some (.int (c.m : Int) t))) ∧ ∀ e ∈ c.es, @LT.lt Nat _ x e.1
abbrev rdM (m : Str → Option Value) (c : LS) : Str → Option Value := fun y => if y = Str.ofString "read" then some (.str (T c.rd) c.tr) else m y
section
variable {prog : Program} {w : World} {A : Around} {E : Value → Shared → Prop} {s : Shared} {env : Env} {h₀ : Heap} {L : Addr} {body : List Stmt} {Q : Flow → Shared → Prop}
theorem law_loop {w9 : World} {x dx li ce : Addr} {k t1 : Tok} {oc : Obj} {a1 a2 a3 : Addr × Obj} {l0 : List Nat} {tr : Tok} {r : Addr} {t₀ u₀ v₀ : Tok} {m₀ : Str → Option Value} (stored : List Str)
    (hh : A.handled = none) (hr : IsRange s.heap r 0 4 1 t₀ u₀ v₀) (F : Fr h₀ env.locals s.heap m₀) (N : News h₀ env.locals s.heap ((x, instObj 280 dx) :: (dx, dictOf (hdEs w9 li k) 1) :: (li, W.listOf #[] 0) :: a1 :: a2 :: a3 :: (ce, oc) :: []))
    (hoc : oc.data = .cell (some (.int 1 t1))) (hrd : m₀ (Str.ofString "read") = some (.str (T l0) tr))
    (turn : ∀ (I : Addr), @LT.lt Nat _ x I → ∀ (c : LS) (i : Nat) t (u : Str → Option Value) (it : Obj) h tk, i < 4 → (∀ p ∈ ledL w9 x dx li ce k c, p.1 ≠ I) → LP l0 x i c →
      Fr h₀ env.locals h (fun y => if y = Str.ofString "k" then some (.int (0 + (i : Int)) t) else kstB (fun z => if stored.contains z then u z else m₀ z) [(Str.ofString "read", .str (T c.rd) c.tr)] y) →
      News h₀ env.locals h ((I, it) :: ledL w9 x dx li ce k c) →
      wpAny (model prog w) A (execs body env) (UnrPost h₀ env.locals { s with heap := h, toks := tk } I it (KstW (ledL w9 x dx li ce k) (fun c => [(Str.ofString "read", .str (T c.rd) c.tr)]) (Str.ofString "k") stored m₀ (LP l0 x) (i + 1)) Q) E { s with heap := h, toks := tk })
    (done : ∀ (c : LS) (u : Str → Option Value) h tk, Fr h₀ env.locals h (fun y => if y = Str.ofString "k" then u y else kstB (fun z => if stored.contains z then u z else m₀ z) [(Str.ofString "read", .str (T c.rd) c.tr)] y) → News h₀ env.locals h (ledL w9 x dx li ce k c) → Q .next { s with heap := h, toks := tk }) :
    wpAny (model prog w) A (pyIter (.ref r)) (fun it s₂ => LoopAtV prog w A h₀ env (Str.ofString "k") body Q E it s₂) E s := by
  refine kst_rangeW (σ := LS) (a₀ := 0) (b₀ := 4) (n := 4) (ledL w9 x dx li ce k) (fun c => [(Str.ofString "read", .str (T c.rd) c.tr)]) stored (LP l0 x) ⟨l0, tr, 1, [], 0, oc⟩ hh hr (by decide) (by decide) F N
    ?_ ?_ ⟨by simp [due], ⟨Nat.le_refl 1, Nat.le_refl 1, .inl rfl⟩, Nat.zero_le _, ⟨t1, hoc⟩, fun e he => nomatch he⟩ ?_ ?_
  · intro p hp
    simp only [ledL, List.map_nil, List.mem_cons, List.not_mem_nil, or_false] at hp ⊢
    rcases hp with rfl | rfl | rfl | rfl <;> simp
  · intro p hp
    rw [List.mem_singleton.mp hp]
    exact hrd
  · intro I hI c i t u it h tk hi hoff hP F' N'
    exact turn I (hI _ (List.mem_cons_self ..)) c i t u it h tk hi hoff hP F' N'
  · intro c u h tk _ F' N'
    exact done c u h tk F' N'
end
end Mine
end
-- Lh
section
open PySem PySem.W PySem.Calls PyProof.Rows PySem.Spec
namespace Mine
structure Mark3 : Prop where
theorem mark3 : Mark3 := ⟨⟩
section
variable {prog : Program} {w : World} {A : Around} {E : Value → Shared → Prop} {s : Shared} {env : Env} {h₀ h : Heap} {L : Addr}
theorem own_off {w9 : World} {x dx li ce I : Addr} {it : Obj} {k : Tok} {c : LS} (_N : News h₀ L h ((I, it) :: ledL w9 x dx li ce k c)) (hex : ∀ e ∈ c.es, @LT.lt Nat _ x e.1) (h1 : @LT.lt Nat _ dx x) (h2 : @LT.lt Nat _ li x) (h3 : @LT.lt Nat _ ce x) : OwnOff (c.es.map fun e => (e.1, entO e)) [x, dx, li, ce] := by
  intro p hp b hb
  obtain ⟨e, he, rfl⟩ := List.mem_map.mp hp
  have h4 := hex e he
  simp only [List.mem_cons, List.not_mem_nil, or_false] at hb
  rcases hb with rfl | rfl | rfl | rfl
  · exact (Nat.ne_of_lt h4).symm
  · exact (Nat.ne_of_lt (Nat.lt_trans h1 h4)).symm
  · exact (Nat.ne_of_lt (Nat.lt_trans h2 h4)).symm
  · exact (Nat.ne_of_lt (Nat.lt_trans h3 h4)).symm
def MP (l0 : List Nat) (x I : Addr) (i : Nat) (c : LS) : Prop := LP l0 x i c ∧ ∀ e ∈ c.es, @Ne Nat e.1 I
theorem law_meetR {M : Model} {Q : Flow → Shared → Prop} {w9 : World} {x dx li ce I : Addr} {it : Obj} {k : Tok} {m : Str → Option Value} {st : Stmt} (c : LS) (l0 : List Nat) (i : Nat) (_F : Fr h₀ L s.heap m) (_N : News h₀ L s.heap ((I, it) :: ledL w9 x dx li ce k c))
    (h1 : wpAny M A (exec st env) (JoinQ h₀ L (fun c => (I, it) :: ledL w9 x dx li ce k c) (rdM m) (MP l0 x I i) s) E s)
    (h2 : ∀ c h' tk', 0 < tk' → Fr h₀ L h' (rdM m c) → News h₀ L h' ((I, it) :: ledL w9 x dx li ce k c) → MP l0 x I i c → Q .next { s with heap := h', toks := tk' }) : wpAny M A (exec st env) Q E s :=
  r_meet (fun c => (I, it) :: ledL w9 x dx li ce k c) (rdM m) _ _F h1 h2
abbrev dmM (m : Str → Option Value) (rd : List Nat) (mo : Nat) (c : Tok × Tok) : Str → Option Value := fun y => if y = Str.ofString "due" then some (.str (T rd) c.2) else if y = Str.ofString "more" then some (.int (mo : Int) c.1) else m y
theorem law_meet2 {M : Model} {Q : Flow → Shared → Prop} {led : List (Addr × Obj)} {m : Str → Option Value} {st : Stmt} (rd : List Nat) (mo : Nat) (_F : Fr h₀ L s.heap m) (_N : News h₀ L s.heap led)
    (h1 : wpAny M A (exec st env) (JoinQ h₀ L (fun _ : Tok × Tok => led) (dmM m rd mo) (fun _ => True) s) E s)
    (h2 : ∀ t1 t2 h' tk', 0 < tk' → Fr h₀ L h' (dmM m rd mo (t1, t2)) → News h₀ L h' led → Q .next { s with heap := h', toks := tk' }) : wpAny M A (exec st env) Q E s :=
  r_meet (fun _ => led) (dmM m rd mo) _ _F h1 fun c h' tk' hp F N _ => h2 c.1 c.2 h' tk' hp F N
end
section
variable {prog : Program} {w : World} {A : Around} {E : Value → Shared → Prop} {s : Shared} {env : Env} {h₀ : Heap} {L : Addr} {m : Str → Option Value}
/-- the source of a row of signs -/
def CompSrcS (prog : Program) (w : World) (A : Around) (h₀ : Heap) (L : Addr) (m : Str → Option Value) (env : Env) (elt : PySem.Expr) (x : Str) (scope : Scope) (cl : List (Str × Addr)) (Fin : Shared → List Value → List (Addr × Obj) → Prop) (xv : Value) (s₁ : Shared) : Prop :=
  ∃ l t news, xv = .str (T l) t ∧ (T l).cps.all (· < 128) = true ∧ A.handled = none ∧ Fr h₀ L s₁.heap m ∧ News h₀ L s₁.heap news ∧ (T l).cps.size ≤ sizeLine ∧
    ∀ g, LCg.CompRest prog w A h₀ L m env elt x scope cl { s₁ with heap := g } (fun _ => True) (SignAt (T l)) (Fin { s₁ with heap := g }) (T l).cps.size 0 [] news
theorem ListComp_S {elt iter : PySem.Expr} {x : Str} {px : Pos} {scope : Scope} {cl : List (Str × Addr)} {pos : Pos} {Q : Value → Shared → Prop} (F₀ : Fr h₀ L s.heap m)
    (hclos : closureFor scope env = pure cl) (hcell : ∀ y ∈ scope.names, y.2 ≠ .cell) (hkind : scope.kind = .function)
    (hnames : ∀ y ∈ scope.names, y.2 = .local → scope.names.lookup y.1 = some .local) (hx : scope.names.lookup x = some .local)
    (h : wpAny (model prog w) A (eval iter env) (CompSrcS prog w A h₀ L m env elt x scope cl (fun s₂ => LCg.FinE h₀ L m s₂ Q)) E s)
    (hs : ∀ x, foldedSetIterable iter env x = pure x := by intro _; rfl) :
    wpAny (model prog w) A (eval (.ListComp elt [⟨.Name x px, iter, [], 0⟩] scope pos) env) Q E s := by
  rw [eval_ListComp]
  refine wpAny_comprehension_free (use := none) rfl hs hclos hkind hnames (wpAny_mono h (fun xv s₁ h₁ => ?_) fun _ _ e => e)
  obtain ⟨l, t, news, rfl, hasc, hh, F, N, hsz, R⟩ := h₁
  refine wpAny_pyIter_ascii hasc ?_
  refine LCg.block_U (Walks.strAscii hh s₁.heap.objs.size (T l) t) hsz (fun i h st => by obtain ⟨o, e, _⟩ := st; exact ⟨o, e⟩)
    (fun i h h' o nw st e e' _ _ _ => by obtain ⟨o', q, r⟩ := st; rw [e] at q; cases q; exact ⟨o, e', r⟩) hcell hkind hx ⟨_, Heap.get?_push_size _ rfl, rfl, rfl⟩ (fun b hb => ?_)
    (F.keeps fun _ _ e => Heap.get?_push_of_some _ e) (N.grown fun _ _ e => Heap.get?_push_of_some _ e) (Nat.ne_of_lt F.ns.lt) (next_is_new F) (fun p hp => Nat.ne_of_lt (Heap.lt_size (N p hp).1)) trivial (R _) ?_
  · rw [List.mem_singleton.mp hb]
    show s₁.heap.objs.size < (s₁.heap.push _).objs.size
    rw [Heap.size_push]; exact Nat.lt_succ_self _
  · intro D C h tk m' ys news' F' N' o1 hn hC₀ hD₀ hCL hDL hCD offC fin
    refine ⟨m', hn, fun h'' hs'' => fin D h'' tk (F'.change hs'' hCL hC₀) (fun p hp => ?_) o1⟩
    refine ⟨hs''.extBut _ _ ?_ (N' p hp).1, (N' p hp).2⟩
    rcases List.mem_cons.mp hp with rfl | hp
    · exact Ne.symm hCD
    · exact offC p hp
theorem sign_at {l : List Nat} {i : Nat} {v : Value} (h : SignAt (T l) i v) : ∃ k, l[i]? = some k ∧ ∃ t, v = .str (T [k]) t := by
  obtain ⟨c, u, hc, rfl⟩ := h
  refine ⟨c, ?_, u, rfl⟩
  simpa [T] using hc
theorem mul_T {c m : Nat} (h : 1 ≤ m) : Txt.mul (T [c]) (m : Int) = T (List.replicate m c) := by
  unfold Txt.mul
  rw [if_neg (by omega)]
  split
  · rename_i h1
    have hm : m = 1 := by
      simp [T, PySem.Str.length] at h1
      omega
    subst hm; rfl
  · rw [Int.toNat_natCast]
    refine PySem.Str.ext' ?_
    show (List.replicate m #[c]).foldl (· ++ ·) #[] = (List.replicate m c).toArray
    have key : ∀ (n : Nat) (a : Array Nat), (List.replicate n #[c]).foldl (· ++ ·) a = a ++ (List.replicate n c).toArray := by
      intro n
      induction n with
      | zero => intro a; simp
      | succ n ih =>
        intro a
        rw [List.replicate_succ, List.foldl_cons, ih, List.replicate_succ]
        apply Array.toList_inj.mp
        simp
    rw [key]; simp
theorem r_mul {x : Str} {c m' : Nat} {v : Int} {t u : Tok} {Q : Value → Shared → Prop} (hx : x = T [c]) (hv : v = (m' : Int)) (h1 : 1 ≤ m') (hz : m' ≤ 1000)
    (h : ∀ t' k, Q (.str (T (List.replicate m' c)) t') { s with toks := k }) : wpAny (model prog w) A (binaryOp .Mult (.str x t) (.int v u)) Q E s := by
  subst hx hv
  refine SB.mul (mulOk_of 16 1048576 (by rw [T_len]; show 1 ≤ 16; decide) (by omega) (by omega) (by decide) (by decide)) ?_
  intro t' k
  rw [mul_T h1]
  exact h t' k
end
theorem last_map (es : List Ent) (D : Addr) (t1 t2 : Tok) (l : List Nat) : ((es ++ [(D, t1, l, t2)]).map fun e : Ent => Value.str (T e.2.2.1) e.2.2.2).getLast? = some (.str (T l) t2) := by
  rw [List.map_append]
  exact List.getLast?_concat
theorem own_new {es : List Ent} {D : Addr} {t1 t2 : Tok} {l : List Nat} {a b : Addr × Obj} : ∀ e ∈ es ++ [(D, t1, l, t2)], (e.1, entO e) ∈ (D, entO (D, t1, l, t2)) :: a :: b :: es.map fun e => (e.1, entO e) := by
  intro e he
  rcases List.mem_append.mp he with he | he
  · exact .tail _ (.tail _ (.tail _ (List.mem_map.mpr ⟨e, he, rfl⟩)))
  · rw [List.mem_singleton.mp he]; exact .head _
theorem Pow.step {m i : Nat} (h : Pow m i) : Pow m (i + 1) := ⟨h.1, Nat.le_trans h.2.1 (Nat.pow_le_pow_right (by decide) (by omega)), h.2.2⟩
theorem Pow.twice {m i : Nat} (h : Pow m i) : Pow (2 * m) (i + 1) := by
  refine ⟨by have := h.1; omega, ?_, .inr (by omega)⟩
  have := h.2.1
  rw [Nat.pow_succ]
  omega
theorem cell_eq {o : Obj} {a b : Int} {t : Tok} (h : o.data = .cell (some (.int a t))) (e : a = b) : ∃ t, o.data = .cell (some (.int b t)) := e ▸ ⟨t, h⟩
theorem dm_same {m1 m0 : Str → Option Value} {rd rd' : List Nat} {mo : Nat} {mo' : Int} {t1 t2 : Tok} (h1 : m1 (Str.ofString "due") = some (.str (T rd') t2)) (h2 : m1 (Str.ofString "more") = some (.int mo' t1))
    (h3 : ∀ y, y ≠ Str.ofString "due" → y ≠ Str.ofString "more" → m1 y = m0 y) (e1 : rd' = rd) (e2 : mo' = (mo : Int)) : ∀ y, m1 y = dmM m0 rd mo (t1, t2) y := by
  intro y
  subst e1 e2
  by_cases a : y = Str.ofString "due"
  · subst a; rw [h1]; exact (if_pos rfl).symm
  · by_cases b : y = Str.ofString "more"
    · subst b; rw [h2]; exact ((if_neg a).trans (if_pos rfl)).symm
    · rw [h3 y a b]; exact ((if_neg a).trans (if_neg b)).symm
end Mine
end
-- Pl
section
open PySem PySem.W PyProof.Rows
namespace Mine
theorem law_dq' : ∀ r : List Nat, pq (repl 34 [34, 34] r ++ [34, 32, 109, 97, 100, 101]) = r
  | [] => by rw [show repl 34 [34, 34] [] = [] from rfl, List.nil_append, pq_stop (by decide)]
  | c :: r => by
    have ih := law_dq' r
    by_cases h : c = 34
    · subst h
      show pq (34 :: 34 :: (repl 34 [34, 34] r ++ _)) = _
      rw [pq_two, ih]
    · have e : repl 34 [34, 34] (c :: r) = c :: repl 34 [34, 34] r := by
        show (if c = 34 then _ else _) ++ repl 34 [34, 34] r = _
        rw [if_neg h]; rfl
      rw [e, List.cons_append, pq_other h, ih]
theorem esc_app (a b : List Nat) : esc (a ++ b) = esc a ++ esc b := by simp [esc]
theorem esc_one (a : Nat) : esc [a] = if a = 92 then [92, 92] else if a = 34 then [92, 34] else [a] := by simp [esc]
theorem esc_rep : ∀ n, esc (List.replicate n 92) = List.replicate (2 * n) 92
  | 0 => rfl
  | n + 1 => by
    rw [List.replicate_succ, show 92 :: List.replicate n 92 = [92] ++ List.replicate n 92 from rfl, esc_app, esc_rep n, esc_one, if_pos rfl, show 2 * (n + 1) = 2 * n + 1 + 1 by omega, List.replicate_succ, List.replicate_succ]
    rfl
theorem fr_no : ∀ l : List Nat, ∀ a ∈ fr l, a ≠ 34
  | [], a, h => nomatch h
  | c :: l, a, h => by
    unfold fr at h
    by_cases hc : c = 34
    · subst hc; simp at h
    · have e : (c :: l).takeWhile (· != 34) = c :: fr l := by simp [hc, fr]
      rw [e] at h
      rcases List.mem_cons.mp h with rfl | h
      · exact hc
      · exact fr_no l a h
theorem fr_bh (l : List Nat) : l = fr l ++ bh l := by
  unfold bh
  have h : fr l <+: l := List.takeWhile_prefix _
  obtain ⟨t, ht⟩ := h
  conv => lhs; rw [← ht]
  congr 1
  conv => rhs; rw [← ht]
  have : (fr (fr l ++ t)).length = (fr l).length := by rw [ht]
  rw [this, List.drop_left]
theorem bh_head (l : List Nat) : bh l = [] ∨ ∃ r, bh l = 34 :: r := by
  induction l with
  | nil => exact .inl rfl
  | cons c l ih =>
    by_cases hc : c = 34
    · subst hc
      exact .inr ⟨l, by simp [bh, fr]⟩
    · have e : bh (c :: l) = bh l := by simp [bh, fr, hc]
      rw [e]; exact ih
/-- the reader leaves signs alone that are no quotation marks -/
theorem pq_app : ∀ (a b : List Nat), (∀ c ∈ a, c ≠ 34) → pq (a ++ b) = a ++ pq b
  | [], b, _ => rfl
  | c :: a, b, h => by rw [List.cons_append, pq_other (h c (List.mem_cons_self ..)), pq_app a b fun d hd => h d (List.mem_cons_of_mem _ hd)]; rfl
def mul (m : Nat) (l : List Nat) : List Nat := l.flatMap fun a => if a = 92 then List.replicate m 92 else [a]
theorem mul_no {m : Nat} {l : List Nat} (h : ∀ a ∈ l, a ≠ 34) : ∀ a ∈ mul m l, a ≠ 34 := by
  intro a ha
  obtain ⟨b, hb, hab⟩ := List.mem_flatMap.mp ha
  split at hab
  · rw [List.eq_of_mem_replicate hab]; decide
  · rw [List.mem_singleton.mp hab]; exact h b hb
theorem esc_mul (m : Nat) : ∀ l : List Nat, (∀ a ∈ l, a ≠ 34) → esc (mul m l) = mul (2 * m) l
  | [], _ => rfl
  | c :: l, h => by
    have ih := esc_mul m l fun a ha => h a (List.mem_cons_of_mem _ ha)
    have e : ∀ k, mul k (c :: l) = (if c = 92 then List.replicate k 92 else [c]) ++ mul k l := fun k => rfl
    rw [e, e, esc_app, ih]
    congr 1
    by_cases hc : c = 92
    · rw [if_pos hc, if_pos hc, esc_rep]
    · rw [if_neg hc, if_neg hc, esc_one, if_neg hc, if_neg (h c (List.mem_cons_self ..))]
theorem mul_one : ∀ l : List Nat, mul 1 l = l
  | [] => rfl
  | c :: l => by
    show (if c = 92 then _ else _) ++ mul 1 l = _
    rw [mul_one l]
    by_cases hc : c = 92 <;> simp [hc]
/-- a text by its two parts, each backslash taken m times, and what is left of the part behind -/
theorem due_two (l : List Nat) {m : Nat} (h : 2 ≤ m) : due l m = mul m (fr l) ++ (if bh l = [34] then List.replicate (m - 1) 92 ++ [34] else if bh l = [] then [] else List.replicate (m / 2) 92) := by
  unfold due
  rw [if_neg (by omega)]
  rfl
theorem no_rep (n : Nat) : ∀ c ∈ List.replicate n 92, c ≠ 34 := fun c hc => by rw [List.eq_of_mem_replicate hc]; decide
theorem law_esc' {l : List Nat} {m i : Nat} (hs : ∀ a ∈ l, a ∈ [34, 92, 120]) (hm : Pow m i) : pq (esc (due l m) ++ [34]) = due l (2 * m) := by
  obtain ⟨h1, _, hp⟩ := hm
  rw [due_two l (m := 2 * m) (by omega)]
  have hno := fr_no l
  by_cases hm1 : m = 1
  · subst hm1
    have e : due l 1 = l := by simp [due]
    rw [e]
    conv => lhs; rw [fr_bh l]
    have hmf : esc (fr l) = mul 2 (fr l) := by
      have := esc_mul 1 (fr l) hno
      rwa [mul_one] at this
    rw [esc_app, hmf, List.append_assoc, pq_app _ _ (mul_no hno)]
    congr 1
    rcases bh_head l with hb | ⟨r, hb⟩
    · rw [hb]; rfl
    · rw [hb]
      cases r with
      | nil => rfl
      | cons d r =>
        have hd : d ∈ [34, 92, 120] := hs d (by rw [fr_bh l, hb]; simp)
        rw [if_neg (by simp), if_neg (by simp)]
        have e2 : esc (34 :: d :: r) ++ [34] = [92, 34] ++ (esc [d] ++ (esc r ++ [34])) := by
          rw [show 34 :: d :: r = [34] ++ ([d] ++ r) from rfl, esc_app, esc_app]
          simp [esc_one]
        rw [e2]
        show pq (92 :: 34 :: (esc [d] ++ (esc r ++ [34]))) = [92]
        rw [pq_other (by decide)]
        have hd2 : ∃ e t, esc [d] = e :: t ∧ e ≠ 34 := by
          simp only [List.mem_cons, List.not_mem_nil, or_false] at hd
          rcases hd with rfl | rfl | rfl
          · exact ⟨92, [34], rfl, by decide⟩
          · exact ⟨92, [92], rfl, by decide⟩
          · exact ⟨120, [], rfl, by decide⟩
        obtain ⟨e, t, he, hne⟩ := hd2
        rw [he, List.cons_append, pq_stop hne]
  · have hm2 : 2 ≤ m := by omega
    have hev : m % 2 = 0 := by omega
    rw [due_two l hm2, esc_app, esc_mul m _ hno, List.append_assoc, pq_app _ _ (mul_no hno)]
    congr 1
    by_cases hb : bh l = [34]
    · rw [if_pos hb, if_pos hb, esc_app, esc_rep, List.append_assoc, pq_app _ _ (no_rep _)]
      show _ ++ pq [92, 34, 34] = _
      rw [show pq [92, 34, 34] = [92, 34] from rfl, show 2 * m - 1 = 2 * (m - 1) + 1 by omega, List.replicate_succ', List.append_assoc]
      rfl
    · rw [if_neg hb, if_neg hb]
      by_cases hb0 : bh l = []
      · rw [if_pos hb0, if_pos hb0]; rfl
      · rw [if_neg hb0, if_neg hb0, esc_rep, pq_app _ _ (no_rep _), pq_end, List.append_nil, show 2 * (m / 2) = 2 * m / 2 by omega]
theorem due_ne' {l : List Nat} {m i : Nat} (hl : l ≠ []) (hm : Pow m i) : due l m ≠ [] := by
  obtain ⟨h1, _, hp⟩ := hm
  by_cases hm1 : m = 1
  · subst hm1; simpa [due] using hl
  · have hm2 : 2 ≤ m := by omega
    rw [due_two l hm2]
    intro e
    obtain ⟨ha, hb⟩ := List.append_eq_nil_iff.mp e
    by_cases h34 : bh l = [34]
    · rw [if_pos h34] at hb; simp at hb
    · rw [if_neg h34] at hb
      by_cases h0 : bh l = []
      · have hf : l = fr l := by
          have := fr_bh l
          rwa [h0, List.append_nil] at this
        cases hc : fr l with
        | nil => rw [hc] at hf; exact hl hf
        | cons c r =>
          rw [hc] at ha
          have : (if c = 92 then List.replicate m 92 else [c]) ++ mul m r = [] := ha
          obtain ⟨h2, _⟩ := List.append_eq_nil_iff.mp this
          by_cases hc9 : c = 92
          · rw [if_pos hc9] at h2
            have := congrArg List.length h2
            rw [List.length_replicate] at this
            simp at this
            omega
          · rw [if_neg hc9] at h2; cases h2
      · rw [if_neg h0] at hb
        have := congrArg List.length hb
        rw [List.length_replicate] at this
        simp at this
        omega
theorem due_in' {l : List Nat} {m : Nat} (hs : ∀ a ∈ l, a ∈ [34, 92, 120]) : ∀ a ∈ due l m, a ∈ [34, 92, 120] := by
  have h92 : ∀ n a, a ∈ List.replicate n 92 → a ∈ [34, 92, 120] := fun n a ha => by rw [List.eq_of_mem_replicate ha]; decide
  intro a ha
  unfold due at ha
  split at ha
  · exact hs a ha
  · rcases List.mem_append.mp ha with ha | ha
    · obtain ⟨b, hb, hab⟩ := List.mem_flatMap.mp ha
      split at hab
      · exact h92 _ _ hab
      · rw [List.mem_singleton.mp hab]
        exact hs b (by rw [fr_bh l]; exact List.mem_append_left _ hb)
    · split at ha
      · rcases List.mem_append.mp ha with ha | ha
        · exact h92 _ _ ha
        · rw [List.mem_singleton.mp ha]; decide
      · split at ha
        · cases ha
        · exact h92 _ _ ha
theorem mul_len {m : Nat} (hm : 1 ≤ m) : ∀ l : List Nat, (mul m l).length ≤ m * l.length
  | [] => by simp [mul]
  | c :: l => by
    have ih := mul_len hm l
    show ((if c = 92 then List.replicate m 92 else [c]) ++ mul m l).length ≤ m * (l.length + 1)
    rw [List.length_append, Nat.mul_add]
    split
    · rw [List.length_replicate]; omega
    · simp only [List.length_cons, List.length_nil]; omega
theorem due_len' {l : List Nat} {m i : Nat} (hl : l.length ≤ 6) (hi : i ≤ 4) (hm : Pow m i) : (due l m).length ≤ 200 := by
  obtain ⟨h1, h2, hp⟩ := hm
  have h16 : m ≤ 16 := Nat.le_trans h2 (by
    have := Nat.pow_le_pow_right (show 0 < 2 by decide) hi
    simpa using this)
  by_cases hm1 : m = 1
  · subst hm1; simp [due]; omega
  · rw [due_two l (by omega), List.length_append]
    have hf : (fr l).length ≤ l.length := (List.takeWhile_sublist _).length_le
    have a := mul_len h1 (fr l)
    have b : m * (fr l).length ≤ 16 * 6 := Nat.mul_le_mul h16 (by omega)
    split
    · simp only [List.length_append, List.length_replicate, List.length_cons, List.length_nil]; omega
    · split
      · simp only [List.length_nil]; omega
      · rw [List.length_replicate]; omega
def trn (l : List Nat) : List Nat := repl 92 [32] (repl 120 [9] l)
theorem trn_app (a b : List Nat) : trn (a ++ b) = trn a ++ trn b := by unfold trn; rw [repl_app, repl_app]
theorem trn_rep (n : Nat) : trn (List.replicate n 92) = List.replicate n 32 := by
  induction n with
  | zero => rfl
  | succ n ih =>
    rw [List.replicate_succ, show 92 :: List.replicate n 92 = [92] ++ List.replicate n 92 from rfl, trn_app, ih, List.replicate_succ]
    rfl
def white (a : Nat) : Prop := a = 32 ∨ a = 9
theorem trn_mul (m : Nat) : ∀ f : List Nat, (∀ a ∈ f, a ∈ [34, 92, 120]) → (∀ a ∈ f, a ≠ 34) → ∀ a ∈ trn (mul m f), white a
  | [], _, _, a, h => nomatch h
  | c :: f, hs, hn, a, h => by
    have e : mul m (c :: f) = (if c = 92 then List.replicate m 92 else [c]) ++ mul m f := rfl
    rw [e, trn_app] at h
    rcases List.mem_append.mp h with h | h
    · have hc := hs c (List.mem_cons_self ..)
      have hn := hn c (List.mem_cons_self ..)
      simp only [List.mem_cons, List.not_mem_nil, or_false] at hc
      rcases hc with rfl | rfl | rfl
      · exact absurd rfl hn
      · rw [if_pos rfl, trn_rep] at h
        exact .inl (List.eq_of_mem_replicate h)
      · rw [if_neg (by decide)] at h
        exact .inr (List.mem_singleton.mp h)
    · exact trn_mul m f (fun a ha => hs a (List.mem_cons_of_mem _ ha)) (fun a ha => hn a (List.mem_cons_of_mem _ ha)) a h
theorem wsp_two {p : List Nat} (h : ∀ a ∈ p, white a) (r : List Nat) : wsp (p ++ 34 :: r) = p := by
  unfold wsp
  rw [List.takeWhile_append_of_pos (fun a ha => by rcases h a ha with rfl | rfl <;> rfl), List.takeWhile_cons_of_neg (by decide), List.append_nil]
/-- the column, begun at another one -/
def colF (ts : Int) (c0 : Int) (p : List Nat) : Int := p.foldl (fun col c => if c = 9 then (col / ts + 1) * ts else col + 1) c0
theorem colF_app (ts c0 : Int) (a b : List Nat) : colF ts c0 (a ++ b) = colF ts (colF ts c0 a) b := by simp [colF]
theorem colF_rep (ts : Int) : ∀ (n : Nat) (c0 : Int), colF ts c0 (List.replicate n 32) = c0 + n
  | 0, c0 => by simp [colF]
  | n + 1, c0 => by
    rw [List.replicate_succ]
    show colF ts (if (32 : Nat) = 9 then _ else c0 + 1) (List.replicate n 32) = _
    rw [if_neg (by decide), colF_rep ts n]
    omega
theorem colF_mul {m sz : Nat} (hm : 1 ≤ m) (h1 : 1 ≤ sz) : ∀ (f : List Nat) (c : Nat), (∀ a ∈ f, a ∈ [34, 92, 120]) → (∀ a ∈ f, a ≠ 34) →
    colF ((sz * m : Nat) : Int) ((m * c : Nat) : Int) (trn (mul m f)) = ((m * f.foldl (fun col (d : Nat) => stp sz col (d : Int)) c : Nat) : Int)
  | [], c, _, _ => rfl
  | d :: f, c, hs, hn => by
    have hs' : ∀ a ∈ f, a ∈ [34, 92, 120] := fun a ha => hs a (List.mem_cons_of_mem _ ha)
    have hn' : ∀ a ∈ f, a ≠ 34 := fun a ha => hn a (List.mem_cons_of_mem _ ha)
    have e : mul m (d :: f) = (if d = 92 then List.replicate m 92 else [d]) ++ mul m f := rfl
    have hc := hs d (List.mem_cons_self ..)
    have hn := hn d (List.mem_cons_self ..)
    rw [e, trn_app, colF_app, List.foldl_cons]
    simp only [List.mem_cons, List.not_mem_nil, or_false] at hc
    rcases hc with rfl | rfl | rfl
    · exact absurd rfl hn
    · rw [if_pos rfl, trn_rep, colF_rep]
      have e1 : ((m * c : Nat) : Int) + (m : Int) = ((m * (c + 1) : Nat) : Int) := by
        rw [Nat.mul_add, Nat.mul_one]; push_cast; rfl
      have e2 : stp sz c ((92 : Nat) : Int) = c + 1 := by simp [stp]
      rw [e1, e2]
      exact colF_mul hm h1 f (c + 1) hs' hn'
    · rw [if_neg (by decide)]
      have e1 : colF ((sz * m : Nat) : Int) ((m * c : Nat) : Int) (trn [120]) = ((m * ((c / sz + 1) * sz) : Nat) : Int) := by
        show (((m * c : Nat) : Int) / ((sz * m : Nat) : Int) + 1) * ((sz * m : Nat) : Int) = _
        rw [← Int.natCast_ediv, Nat.mul_comm sz m, Nat.mul_div_mul_left _ _ (by omega)]
        norm_cast
        rw [Nat.mul_left_comm]
      have e2 : stp sz c ((120 : Nat) : Int) = (c / sz + 1) * sz := by simp [stp]
      rw [e1, e2]
      exact colF_mul hm h1 f _ hs' hn'
theorem law_col' {l : List Nat} {m i sz : Nat} (hs : ∀ a ∈ l, a ∈ [34, 92, 120]) (hm : Pow m i) (h1 : 1 ≤ sz) :
    colZ ((sz * m : Nat) : Int) (wsp (repl 92 [32] (repl 120 [9] (due l m)))) = ((m * wk sz (fr l) + more l m : Nat) : Int) := by
  obtain ⟨hm1, _, hp⟩ := hm
  have hfs : ∀ a ∈ fr l, a ∈ [34, 92, 120] := fun a ha => hs a (by rw [fr_bh l]; exact List.mem_append_left _ ha)
  have hw := trn_mul m (fr l) hfs (fr_no l)
  have hcol : colF ((sz * m : Nat) : Int) 0 (trn (mul m (fr l))) = ((m * wk sz (fr l) : Nat) : Int) := by
    have := colF_mul hm1 h1 (fr l) 0 hfs (fr_no l)
    rw [Nat.mul_zero] at this
    exact this
  have rep : ∀ n a, a ∈ List.replicate n 32 → white a := fun n a ha => .inl (List.eq_of_mem_replicate ha)
  show colF ((sz * m : Nat) : Int) 0 (wsp (trn (due l m))) = _
  by_cases hm2 : m = 1
  · subst hm2
    have e : due l 1 = l := by simp [due]
    have e2 : more l 1 = 0 := by simp [more]
    rw [e, e2, Nat.add_zero, ← hcol]
    congr 1
    rw [mul_one] at hw ⊢
    conv => lhs; rw [fr_bh l]
    rw [trn_app]
    rcases bh_head l with hb | ⟨r, hb⟩
    · rw [hb, show trn [] = [] from rfl, List.append_nil, wsp_all hw]
    · rw [hb, show trn (34 :: r) = 34 :: trn r from rfl, wsp_two hw]
  · rw [due_two l (by omega), trn_app]
    have hm3 : ¬ m ≤ 1 := by omega
    have hmore : more l m = if bh l = [34] then m - 1 else if bh l = [] then 0 else m / 2 := by unfold more; rw [if_neg hm3]
    rw [hmore]
    by_cases hb : bh l = [34]
    · rw [if_pos hb, if_pos hb, trn_app, trn_rep, show trn [34] = 34 :: [] from rfl, ← List.append_assoc, wsp_two (fun a ha => by
        rcases List.mem_append.mp ha with ha | ha
        · exact hw a ha
        · exact rep _ a ha), colF_app, hcol, colF_rep]
      push_cast; rfl
    · rw [if_neg hb, if_neg hb]
      by_cases hb0 : bh l = []
      · rw [if_pos hb0, if_pos hb0, show trn [] = [] from rfl, List.append_nil, wsp_all hw, hcol, Nat.add_zero]
      · rw [if_neg hb0, if_neg hb0, trn_rep, wsp_all (fun a ha => by
          rcases List.mem_append.mp ha with ha | ha
          · exact hw a ha
          · exact rep _ a ha), colF_app, hcol, colF_rep]
        push_cast; rfl
theorem trn_in {l : List Nat} (hs : ∀ a ∈ l, a ∈ [34, 92, 120]) : ∀ a ∈ repl 92 [32] (repl 120 [9] l), a < 128 := by
  have one : ∀ (c : Nat) (z : List Nat) (k : List Nat), (∀ a ∈ z, a < 128) → (∀ a ∈ k, a < 128) → ∀ a ∈ repl c z k, a < 128 := by
    intro c z k hz hk a ha
    obtain ⟨b, hb, hab⟩ := List.mem_flatMap.mp ha
    split at hab
    · exact hz a hab
    · rw [List.mem_singleton.mp hab]; exact hk b hb
  refine one 92 [32] _ (by decide) (one 120 [9] l (by decide) fun a ha => ?_)
  have := hs a ha
  simp only [List.mem_cons, List.not_mem_nil, or_false] at this
  rcases this with rfl | rfl | rfl <;> decide
theorem col_ne {l : List Nat} {m i sz : Nat} (hs : ∀ a ∈ l, a ∈ [34, 92, 120]) (hm : Pow m i) (h1 : 1 ≤ sz) :
    (colZ ((sz * m : Nat) : Int) (wsp (repl 92 [32] (repl 120 [9] (due l m)))) != (m : Int) * ((wk sz (fr l) : Nat) : Int) + ((more l m : Nat) : Int)) = false := by
  rw [law_col' hs hm h1]
  push_cast
  simp
end Mine
end
section
open PySem PySem.W PyProof.Rows
set_option maxRecDepth 100000
set_option maxHeartbeats 8000000
namespace Mine
-- the lines of my own for the walk
local macro_rules | `(tactic| walk_at "t_form") => `(tactic| first
  | with_reducible exact lit_257 | with_reducible exact lit_sq | with_reducible exact lit_ | with_reducible exact lit_q | with_reducible exact lit_257sq | with_reducible exact lit_qq
  | with_reducible exact lit_qmade | with_reducible exact lit_257s | with_reducible exact lit_x | with_reducible exact lit_b | with_reducible exact lit_bb | with_reducible exact lit_bq
  | with_reducible exact lit_tab | with_reducible exact lit_s | with_reducible exact lit_xbqb | with_reducible exact lit_dir | with_reducible exact lit_Dir | with_reducible exact lit_t | with_reducible exact lit_us | with_reducible exact lit_mi | with_reducible exact rfl | exact rfl)
local macro_rules | `(tactic| walk_at "t_size") => `(tactic| ((try simp only [T_len, List.length_append, List.length_cons, List.length_nil, List.length_take, List.length_drop]); omega))
local macro_rules | `(tactic| walk_at "t_bool") => `(tactic| first | assumption | (refine eqT ?_; decide) | (refine eqF ?_; decide) | (refine eqT ?_; (simp_all; done)) | (refine eqF ?_; (simp_all; done)) | exact rfl)
local macro_rules | `(tactic| walk_at "t_pos") => `(tactic| first | exact Nat.succ_pos _ | assumption | omega)
local macro_rules | `(tactic| walk_at "execs cons") => `(tactic| (k_here; (with_reducible show wpAny _ _ _ _ _ (Shared.mk _ _ _ (_ + 1) _)); refine gentok (Nat.succ_pos _) ?_; intro tk' htk'))
local macro_rules | `(tactic| walk_at "execs nil") => `(tactic| (k_here; (with_reducible show wpAny _ _ _ _ _ (Shared.mk _ _ _ (_ + 1) _)); refine gentok (Nat.succ_pos _) ?_; intro tk' htk'))
local macro_rules | `(tactic| walk_at "compareOp NotEq str str") => `(tactic| (k_here; k_dflt (refine' r_neT ?k1 ?k2 ?k3 ?_; (case k1 => walk_at "t_form"); (case k2 => walk_at "t_form"); (case k3 => walk_at "t_bool"))))
local macro_rules | `(tactic| walk_at "compareOp Eq str str") => `(tactic| (k_here; k_dflt (refine' r_eqT ?k1 ?k2 ?k3 ?_; (case k1 => walk_at "t_form"); (case k2 => walk_at "t_form"); (case k3 => walk_at "t_bool"))))
local macro_rules | `(tactic| walk_at "binaryOp Add str str") => `(tactic| (k_here; k_dflt (refine' r_add ?k1 ?k2 ?k3 ?_; (case k1 => walk_at "t_form"); (case k2 => walk_at "t_form"); (case k3 => walk_at "t_size")); intro _ _))
local macro_rules | `(tactic| walk_at "call builtin:len") => `(tactic| (k_here; (with_reducible show wpAny _ _ (call (Value.builtin "len") [Value.str _ _]) _ _ _); k_dflt (refine' r_len ?k1 ?k2 ?_; (case k1 => walk_at "t_form"); (case k2 => walk_at "t_size"))))
local macro_rules | `(tactic| walk_at "subscriptTail Name Slice str ref") => `(tactic| (k_here; k_dflt (first
  | ((with_reducible show wpAny _ _ (subscriptTail _ (PySem.Expr.Slice none (some _) none _) _ _) _ _ _); refine' r_slice_to (s := ⟨_, _, _, _, _⟩) ?e ?z ?F ?N ?_ ?s ?t; (case e => walk_at "t_slice"); (case z => walk_at "t_size"); (case F => k_asm); (case N => k_asm); (case s => with_unfolding_all rfl); (case t => intro _; with_unfolding_all rfl))
  | ((with_reducible show wpAny _ _ (subscriptTail _ (PySem.Expr.Slice (some _) none none _) _ _) _ _ _); refine' r_slice_from (s := ⟨_, _, _, _, _⟩) ?e ?z ?F ?N ?_ ?s ?t; (case e => walk_at "t_slice"); (case z => walk_at "t_size"); (case F => k_asm); (case N => k_asm); (case s => with_unfolding_all rfl); (case t => intro _; with_unfolding_all rfl))
  | ((with_reducible show wpAny _ _ (subscriptTail _ (PySem.Expr.Slice (some _) (some _) none _) _ _) _ _ _); refine' r_slice (s := ⟨_, _, _, _, _⟩) ?e ?z ?F ?N ?_ ?s ?t; (case e => walk_at "t_slice"); (case z => walk_at "t_size"); (case F => k_asm); (case N => k_asm); (case s => with_unfolding_all rfl); (case t => intro _; with_unfolding_all rfl)));      intro _ _ _ F' N'))
local macro_rules | `(tactic| walk_at "t_slice") => `(tactic| first
  | (refine' slice_to_T ?a ?b <;> (walk_at "t_size"))
  | (refine' slice_from_T ?a ?b <;> (walk_at "t_size"))
  | (refine' slice_T ?a ?b ?c <;> (walk_at "t_size")))
local macro_rules | `(tactic| walk_at "subscriptTail Name Name str int") => `(tactic| (k_here; k_dflt (refine' r_item ?z0 ?k1 ?k2 ?k3 ?_ ?s ?t; (case z0 => omega); (case k3 => walk_at "t_form"); (case k1 => k_extra "mine item"); (case k2 => walk_at "t_size"); (case s => with_unfolding_all rfl); (case t => intro _; with_unfolding_all rfl))))
local macro_rules | `(tactic| walk_at "exec While Compare cons nil") => `(tactic| (k_here; k_extra "stop while"; refine stop_of ?_))
local macro_rules | `(tactic| walk_at "t_same") => `(tactic| (intro z h2 h3; (try simp only [List.forall_mem_cons, List.not_mem_nil, false_implies, implies_true, and_true, ne_eq] at h2); (try simp only [List.contains_cons, List.contains_nil, Bool.or_false, Bool.or_eq_false_iff, beq_eq_false_iff_ne, ne_eq] at h3); first | rfl | (simp [kstB, h2, h3]; done)))
local macro_rules | `(tactic| walk_at "exec While BoolOp cons nil") => `(tactic| (k_here; k_extra "stop while"; refine stop_of ?_))
local macro_rules | `(tactic| walk_at "compareOp NotEq int int") => `(tactic| (k_here; k_dflt (refine' r_neI ?k1 ?_; (case k1 => k_extra "mine ne"))))
local macro_rules | `(tactic| walk_at "t_same4") => `(tactic| (intro z h1 h2 h3; (try simp only [List.forall_mem_cons, List.not_mem_nil, false_implies, implies_true, and_true, ne_eq] at h2); (try simp only [List.contains_cons, List.contains_nil, Bool.or_false, Bool.or_eq_false_iff, beq_eq_false_iff_ne, ne_eq] at h3); first | rfl | (simp [kstB, h1, h2, h3]; done)))
local macro_rules | `(tactic| walk_at "t_class") => `(tactic| k_dflt (refine' call_cls ?k1 ?k2 ?k3 ?k4 ?k5 ?k6 ?_; (case k1 => k_asm); (case k2 => k_asm); (case k3 => k_asm); (case k4 => k_is); (case k5 => k_is); (case k6 => k_is); k_whole; intro x' d' h' F' N' l1 l2; (try k_lt l1); (try k_lt2 l2); (try k_sweep); cell_enter))
local macro_rules | `(tactic| walk_at "call type:tuple") => `(tactic| (k_here; (with_reducible show wpAny _ _ (call (Value.type _) [Value.ref _]) _ _ _); k_dflt (refine' kde_tupleOf ?k1 ?k2 ?k3 ?k4 ?k5 ?_; (case k1 => k_asm); (case k2 => k_asm); (case k3 => exact News.isList (by k_asm) (by k_mem)); (case k4 => k_extra "tuple size"); (case k5 => rfl); k_whole); intro D' h' F' N' l1; (try k_lt l1); (try k_sweep)))
local macro_rules | `(tactic| walk_at "pyIter ref") => `(tactic| (k_here; k_extra "stop range"; refine stop_of ?_))
local macro_rules | `(tactic| walk_at "call builtin:len") => `(tactic| (k_here; (with_reducible show wpAny _ _ (call (Value.builtin "len") [Value.ref _]) _ _ _); k_dflt (refine' r_lenT ?k1 ?k2 ?k3 ?_; (case k1 => exact News.isTup (by k_asm) (by k_mem)); (case k2 => assumption); (case k3 => k_extra "tuple size"))))
local macro_rules | `(tactic| walk_at "subscriptTail Name Name ref int") => `(tactic| (k_here; k_dflt (refine' r_itemT ?k1 ?k2 ?k3 ?k4 ?k5 ?_ ?k6; (case k1 => exact News.isTup (by k_asm) (by k_mem)); (case k2 => assumption); (case k3 => omega); (case k4 => k_extra "tuple size"); (case k5 => k_extra "tuple item"); (case k6 => with_unfolding_all rfl)); intro _))
local macro_rules | `(tactic| walk_at "binaryOp Mult int int") => `(tactic| (k_here; k_dflt (refine' PyProof.Rows.mul_int ?_ (hm := ?m); (case m => k_extra "mul ok")); (try k_extra "drop D")))
local macro_rules | `(tactic| walk_at "getMethod ref") => `(tactic| (k_here; (with_reducible show wpAny _ _ (getMethod (Value.ref _) (PySem.Str.ofString "search") _) _ _ _); k_dflt (refine' r_getSearch ?k1 ?k2 ?k3 ?k4 ?k5 ?_; (case k1 => k_asm); (case k2 => k_asm); (case k3 => k_is); (case k4 => exact rfl); (case k5 => exact rfl); k_whole)))
local macro_rules | `(tactic| walk_at "call builtin:re.Pattern.search") => `(tactic| (k_here; k_dflt (first
  | (refine' r_search cN setN ?k1 ?k2 ?k3 ?k4 ?k5 ?k6 ?k7 ?k8 ?k9 ?ka ?kb ?kc ?kd ?ke ?_; (case k1 => k_asm); (case k2 => k_asm); (case k3 => k_is); (case k4 => exact rfl); (case k5 => exact rfl); (case k6 => k_is); (case k7 => exact rfl); (case k8 => exact rfl); (case k9 => exact rfl); (case ka => exact rfl); (case kb => decide +kernel); (case kc => walk_at "t_form"); (case kd => k_extra "off N"); (case ke => walk_at "t_size"); k_whole)
  | (refine' r_search cV setV ?k1 ?k2 ?k3 ?k4 ?k5 ?k6 ?k7 ?k8 ?k9 ?ka ?kb ?kc ?kd ?ke ?_; (case k1 => k_asm); (case k2 => k_asm); (case k3 => k_is); (case k4 => exact rfl); (case k5 => exact rfl); (case k6 => k_is); (case k7 => exact rfl); (case k8 => exact rfl); (case k9 => exact rfl); (case ka => exact rfl); (case kb => decide +kernel); (case kc => walk_at "t_form"); (case kd => k_extra "off V"); (case ke => walk_at "t_size"); k_whole))))
local macro_rules | `(tactic| walk_at "eval ListComp") => `(tactic| (k_here; lct_look; lcg_calm; k_dflt (refine LCt.ListComp_T (F₀ := by k_asm) (by with_unfolding_all rfl) (by decide) (by rfl) (by decide) (by rfl) ?_)))
local macro_rules | `(tactic| walk_at "CompSrcT") => `(tactic| (k_extra "stop comp"; refine stop_of ?_))
local macro_rules | `(tactic| walk_at "CompEnd") => `(tactic| (k_extra "stop comp"; refine stop_of ?_))
local macro_rules | `(tactic| walk_at "call builtin:str.replace") => `(tactic| (k_here; k_dflt (refine' r_replace ?k1 ?k2 ?k3 ?k4 ?k5 ?k6 ?k7 ?k8 ?k9 ?ka ?_; (case k1 => (show @Ne Nat _ _); omega); (case k2 => (show @Ne Nat _ _); omega); (case k3 => (show @Ne Nat _ _); omega); (case k4 => walk_at "t_form"); (case k5 => walk_at "t_form"); (case k6 => walk_at "t_form"); (case k7 => decide); (case k8 => first | (walk_at "t_size") | k_extra "replace size"); (case k9 => decide); (case ka => first | exact repl_t | exact rfl)); intro t' k' hk'; (try dsimp only at hk'); (try k_extra "drop own")))
local macro_rules | `(tactic| size_fits) => `(tactic| k_extra "size")
local macro_rules | `(tactic| walk_at "exec For Tuple Call cons nil") => `(tactic| (k_here; k_extra "kw for"))
local macro_rules | `(tactic| walk_at "UnrEndW") => `(tactic| (k_extra "stop comp"; refine stop_of ?_))
local macro_rules | `(tactic| walk_at "call builtin:str.join") => `(tactic| (k_here; k_dflt (refine' r_join1 ?k1 ?k2 ?k3 ?k4 ?k5 ?_; (case k1 => exact News.isList (by k_asm) (by k_mem)); (case k2 => exact rfl); (case k3 => decide +kernel); (case k4 => k_extra "join form"); (case k5 => k_extra "join size")); intro _ _))
local macro_rules | `(tactic| walk_at "eval ListComp") => `(tactic| (k_here; k_extra "stop listcomp"; lcg_look; lcg_calm; k_dflt (refine LCg.ListComp_U (F₀ := by k_asm) (by with_unfolding_all rfl) (by decide) (by rfl) (by decide) (by rfl) ?_)))
local macro_rules | `(tactic| walk_at "CompSrc") => `(tactic| (k_extra "stop comp"; refine stop_of ?_))
local macro_rules | `(tactic| walk_at "eval IfExp") => `(tactic| (k_here; k_extra "stop ifexp"; refine stop_of ?_))
local macro_rules | `(tactic| walk_at "subscriptTail") => `(tactic| (k_here; (with_reducible show wpAny _ _ (subscriptTail _ _ (Value.str _ _) (Value.int _ _)) _ _ _); k_dflt (refine' r_item ?z0 ?k1 ?k2 ?k3 ?_ ?s ?t; (case z0 => k_extra "item pos"); (case k3 => walk_at "t_form"); (case k1 => k_extra "mine item"); (case k2 => walk_at "t_size"); (case s => with_unfolding_all rfl); (case t => intro _; with_unfolding_all rfl))))
local macro_rules | `(tactic| walk_at "call builtin:str.join") => `(tactic| (k_here; k_dflt (refine' r_joinE ?k1 ?k2 ?k3 ?k4 ?k5 ?k6 ?_; (case k1 => exact News.isList (by k_asm) (by k_mem)); (case k2 => k_extra "joinE strs"); (case k3 => walk_at "t_form"); (case k4 => k_extra "joinE flat"); (case k5 => k_extra "joinE size"); (case k6 => k_extra "joinE size")); intro _ _))
local macro_rules | `(tactic| walk_at "call builtin:str.split") => `(tactic| (k_here; k_dflt (refine' r_split ?k1 ?k2 ?k3 ?k4 ?k5 ?_; (case k1 => k_asm); (case k2 => k_asm); (case k3 => walk_at "t_form"); (case k4 => walk_at "t_form"); (case k5 => walk_at "t_size")); intro D' vs' r' h' k' hS' F' N' l1; (try k_lt l1)))
local macro_rules | `(tactic| walk_at "subscriptTail") => `(tactic| (k_here; (with_reducible show wpAny _ _ (subscriptTail _ _ (Value.ref _) (Value.int 0 _)) _ _ _); k_dflt (refine' r_first ?k1 ?k2 ?_ ?s; (case k1 => exact News.isList (by k_asm) (by k_mem)); (case k2 => assumption); (case s => with_unfolding_all rfl)); intro _))
local macro_rules | `(tactic| walk_at "exec If") => `(tactic| (k_here; k_extra "stop if"; refine stop_of ?_))
local macro_rules | `(tactic| walk_at "call ref") => `(tactic| (k_here; first | k_dflt (k_extra "contract") | (k_extra "stop call"; refine stop_of ?_)))
local macro_rules | `(tactic| walk_at "eval ListComp") => `(tactic| (k_here; k_extra "text comp"; k_dflt (refine ListComp_S (F₀ := by k_asm) (by with_unfolding_all rfl) (by decide) (by rfl) (by decide) (by rfl) ?_)))
local macro_rules | `(tactic| walk_at "binaryOp Mult str int") => `(tactic| (k_here; k_dflt (refine' r_mul ?k1 ?k2 ?k3 ?k4 ?_; (case k1 => walk_at "t_form"); (case k2 => first | exact rfl | k_extra "mul nat"); (case k3 => k_extra "mul pos"); (case k4 => k_extra "mul pos")); intro _ _))
local macro_rules | `(tactic| walk_at "subscriptTail") => `(tactic| (k_here; (with_reducible show wpAny _ _ (subscriptTail _ _ (Value.ref _) (Value.int (-1) _)) _ _ _); k_dflt (refine' r_last ?k1 ?k2 ?k3 ?_ ?s; (case k1 => exact News.isList (by k_asm) (by k_mem)); (case k2 => k_extra "last"); (case k3 => k_extra "last size"); (case s => with_unfolding_all rfl))))
local macro_rules | `(tactic| walk_at "subscriptTail Subscript Slice str ref") => `(tactic| (k_here; k_dflt (first
  | ((with_reducible show wpAny _ _ (subscriptTail _ (PySem.Expr.Slice none (some _) none _) _ _) _ _ _); refine' r_slice_to (s := ⟨_, _, _, _, _⟩) ?e ?z ?F ?N ?_ ?s ?t; (case e => walk_at "t_slice"); (case z => walk_at "t_size"); (case F => k_asm); (case N => k_asm); (case s => with_unfolding_all rfl); (case t => intro _; with_unfolding_all rfl))
  | ((with_reducible show wpAny _ _ (subscriptTail _ (PySem.Expr.Slice (some _) none none _) _ _) _ _ _); refine' r_slice_from (s := ⟨_, _, _, _, _⟩) ?e ?z ?F ?N ?_ ?s ?t; (case e => walk_at "t_slice"); (case z => walk_at "t_size"); (case F => k_asm); (case N => k_asm); (case s => with_unfolding_all rfl); (case t => intro _; with_unfolding_all rfl))
  | ((with_reducible show wpAny _ _ (subscriptTail _ (PySem.Expr.Slice (some _) (some _) none _) _ _) _ _ _); refine' r_slice (s := ⟨_, _, _, _, _⟩) ?e ?z ?F ?N ?_ ?s ?t; (case e => walk_at "t_slice"); (case z => walk_at "t_size"); (case F => k_asm); (case N => k_asm); (case s => with_unfolding_all rfl); (case t => intro _; with_unfolding_all rfl)));      intro _ _ _ F' N'))
-- W5
theorem c_parse (w) (z : List Nat) (hz : z.length ≤ 1000) (tr : Tok) : Con w 70 [.str (T (50 :: 53 :: 55 :: 32 :: 34 :: z)) tr] (fun t => .str (T (pq z)) t) := by
  k_with_none
  dsimp only [Con, CbClaim, CbLists, CbRet, KW, PR]
  k_fill
  intro loos mean mg mb news dp un gd cn cs a ccd cl outer A₀ base h₀ L m s Q E hB hF hK hN hT hcs _ hdp hun hret
  have hlen : (50 :: 53 :: 55 :: 32 :: 34 :: z).length = z.length + 5 := by simp
  refine wpAny_call ?_
  k_dflt cell_enter
  k_with "stop while" => skip
  k_with "mine item" => first | exact hI0 _ (by omega) | exact hI1 _ (by omega)
  k_with "p_end" => first
    | exact cb_retS hret (congrArg T hE.symm) (by k_asm) (by k_asm)
    | exact ksw_end (_, _, _, _) (by k_asm) (by k_asm) (fun _ hp => hp) True.intro (by kst_all) (by walk_at "t_same") ⟨k + 1, by omega, by omega, hS, by simp; omega⟩ (by simp; omega)
    | exact ksw_end (_, _, _, _) (by k_asm) (by k_asm) (fun _ hp => hp) True.intro (by kst_all) (by walk_at "t_same") ⟨k + 1 + 1, by omega, by omega, hS2, by simp; omega⟩ (by simp; omega)
  k_steps
  refine STOP.out ?_
  rename Fr _ _ _ _ => lF'
  rename News _ _ _ _ => lN'
  with_unfolding_all
   refine' ksw_while (σ := Int × Tok × List Nat × Tok) (fun _ => news)
    (fun c => [(Str.ofString "i", .int c.1 c.2.1), (Str.ofString "dirname", .str (T c.2.2.1) c.2.2.2)]) (fun _ => True) [Str.ofString "c"]
    (fun c => ∃ k : Nat, c.1 = 5 + (k : Int) ∧ k ≤ z.length ∧ pq z = c.2.2.1 ++ pq (z.drop k) ∧ c.2.2.1.length ≤ k)
    (fun c => (5 + (z.length : Int) - c.1).toNat) (5, _, [], _) lF' lN' True.intro ?kk ?kp ?_
  case kk => kst_all
  case kp => exact ⟨0, rfl, Nat.zero_le _, rfl, Nat.le_refl _⟩
  clear lF' lN'
  rintro ⟨i, ti, acc, tacc⟩ u h tk _ ⟨k, hi, hk, hp, hl⟩ F' N'
  dsimp only at hi hp hl F' N' ⊢
  subst hi
  rcases Nat.lt_or_ge k z.length with hlt | hge
  · obtain ⟨c, hc⟩ : ∃ c, z[k]? = some c := ⟨_, List.getElem?_eq_getElem hlt⟩
    have hI0 : ∀ j : Int, j = 5 + (k : Int) → (50 :: 53 :: 55 :: 32 :: 34 :: z)[j.toNat]? = some c := fun j hj => by
      rw [show j.toNat = k + 5 by omega]; exact hc
    rw [drop_at hc] at hp
    by_cases hq : c = 34
    · subst hq
      rcases hd : z[k + 1]? with _ | d
      · have hge : z.length ≤ k + 1 := by
          rcases Nat.lt_or_ge (k + 1) z.length with h' | h'
          · rw [List.getElem?_eq_getElem h'] at hd; cases hd
          · exact h'
        have hE : pq z = acc := by rw [hp, List.drop_eq_nil_of_le hge, pq_end, List.append_nil]
        ((try k_unmd); (try k_fold); k_steps; all_goals k_extra "p_end")
      · have hlt1 : k + 1 < z.length := by
          rcases Nat.lt_or_ge (k + 1) z.length with h' | h'
          · exact h'
          · rw [List.getElem?_eq_none h'] at hd; cases hd
        have hI1 : ∀ j : Int, j = 5 + (k : Int) + 1 → (50 :: 53 :: 55 :: 32 :: 34 :: z)[j.toNat]? = some d := fun j hj => by
          rw [show j.toNat = k + 1 + 5 by omega]; exact hd
        rw [drop_at hd] at hp
        by_cases hq1 : d = 34
        · subst hq1
          have hS2 : pq z = (acc ++ [34]) ++ pq (z.drop (k + 1 + 1)) := by rw [hp, pq_two]; simp
          ((try k_unmd); (try k_fold); k_steps; all_goals k_extra "p_end")
        · have hE : pq z = acc := by rw [hp, pq_stop hq1, List.append_nil]
          ((try k_unmd); (try k_fold); k_steps; all_goals k_extra "p_end")
    · have hS : pq z = (acc ++ [c]) ++ pq (z.drop (k + 1)) := by rw [hp, pq_other hq]; simp
      ((try k_unmd); (try k_fold); k_steps; all_goals k_extra "p_end")
  · have hE : pq z = acc := by rw [hp, List.drop_eq_nil_of_le hge, pq_nil, List.append_nil]
    ((try k_unmd); (try k_fold); k_steps; all_goals k_extra "p_end")
-- W6
theorem c_walk (w) (l : List Nat) (hz : l.length ≤ 1000) (tr : Tok) (sz : Nat) (hs1 : 1 ≤ sz) (ts : Tok) : Con w 291 [.str (T l) tr, .int sz ts] (fun t => .int (wk sz l : Int) t) := by
  k_with_none
  dsimp only [Con, CbClaim, CbLists, CbRet, KW, PR]
  k_fill
  intro loos mean mg mb news dp un gd cn cs a ccd cl outer A₀ base h₀ L m s Q E hB hF hK hN hT hcs _ hdp hun hret
  refine wpAny_call ?_
  k_dflt cell_enter
  k_with "stop while" => skip
  k_with "pyIter str" => refine stop_of ?_
  k_steps
  refine STOP.out ?_
  rename Fr _ _ _ _ => lF'
  rename News _ _ _ _ => lN'
  with_unfolding_all
   refine' KStt.kst_text (σ := Int × Tok) (fun _ => news) (fun c => [(Str.ofString "column", .int c.1 c.2)]) (fun _ => True) []
    (fun pre c => c.1 = ((pre.foldl (stp sz) 0 : Nat) : Int)) (0, _) ?hh lF' lN' True.intro ?kk ?kp ?_ ?_
  case hh => rfl
  case kk => kst_all
  case kp => rfl
  all_goals clear lF' lN'
  · rintro ⟨c1, tc⟩ pre post n t u h tk own he hoff _ hp F' N'
    dsimp only at hp F' N' ⊢
    generalize hcol : pre.foldl (stp sz) 0 = col at hp
    subst hp
    (try k_unmd); (try k_fold)
    by_cases hn : n = 120
    · subst hn
      k_steps
      refine STOP.out ?_
      rename Fr _ _ _ _ => lF'
      rename News _ _ _ _ => lN'
      have hlt := up_lt (col := col) hs1
      have hnx : stp sz col ((120 : Nat) : Int) = (col / sz + 1) * sz := by simp [stp]
      generalize htg : (col / sz + 1) * sz = tg at hlt hnx
      with_unfolding_all
       refine' ksw_while (σ := Int × Tok) (fun _ => news ++ own) (fun c => [(Str.ofString "column", .int c.1 c.2)]) (fun _ => True) []
        (fun c => ∃ c' : Nat, c.1 = (c' : Int) ∧ col < c' ∧ c' ≤ tg) (fun c => ((tg : Int) - c.1).toNat) ((col : Int) + 1, _) lF' lN' True.intro ?kk ?kp ?_
      case kk => kst_all
      case kp => exact ⟨col + 1, by simp, by omega, by omega⟩
      clear lF' lN'
      rintro ⟨c2, tc2⟩ u2 h2 tk2 _ ⟨c', hc2, hlo, hhi⟩ F' N'
      dsimp only at hc2 F' N' ⊢
      subst hc2
      rcases Nat.lt_or_ge c' tg with hl | hl
      · have hm : Int.fmod (c' : Int) (sz : Int) ≠ 0 := up_mid hs1 hlo (by rw [htg]; exact hl)
        (try k_unmd); (try k_fold)
        k_with "mine ne" => exact eqT (by simpa using hm)
        k_steps
        exact ksw_end (_, _) (by k_asm) (by k_asm) (fun _ hp => hp) True.intro (by kst_all) (by walk_at "t_same") ⟨c' + 1, by simp, by omega, by omega⟩ (by simp; omega)
      · have hm : Int.fmod (c' : Int) (sz : Int) = 0 := by rw [show c' = tg by omega, ← htg]; exact up_end hs1
        (try k_unmd); (try k_fold)
        k_with "mine ne" => exact eqF (by simp [hm])
        k_steps
        exact kst_end (_, _) (by k_asm) (by k_asm) (fun p hp => List.mem_append_left _ hp) (fun p hp => List.mem_append_right _ hp) rfl True.intro (by kst_all) (by walk_at "t_same4") (by dsimp only; rw [stp_snoc, hcol, hnx]; omega)
    · k_steps
      refine STOP.out ?_
      rename Fr _ _ _ _ => lF'
      rename News _ _ _ _ => lN'
      with_unfolding_all
       refine' ksw_while (σ := Int × Tok) (fun _ => news ++ own) (fun c => [(Str.ofString "column", .int c.1 c.2)]) (fun _ => True) []
        (fun c => c.1 = (col : Int) + 1) (fun c => 0) ((col : Int) + 1, _) lF' lN' True.intro ?kk rfl ?_
      case kk => kst_all
      clear lF' lN'
      rintro ⟨c2, tc2⟩ u2 h2 tk2 _ hc2 F' N'
      dsimp only at hc2 F' N' ⊢
      subst hc2
      (try k_unmd); (try k_fold)
      k_steps
      exact kst_end (_, _) (by k_asm) (by k_asm) (fun p hp => List.mem_append_left _ hp) (fun p hp => List.mem_append_right _ hp) rfl True.intro (by kst_all) (by walk_at "t_same4") (by dsimp only; rw [stp_snoc, hcol]; unfold stp; rw [if_neg (by omega)]; omega)
  · rintro ⟨c1, tc⟩ u h tk _ hp F' N'
    dsimp only at hp F' N' ⊢
    rw [wk_codes] at hp
    subst hp
    (try k_unmd); (try k_fold)
    k_steps
    exact hret _ _ _ (by k_asm) (by k_asm)
-- W7
theorem c_white (w : World) (l : List Nat) (hz : l.length ≤ 1000) (hasc : ∀ a ∈ l, a < 128) (tr : Tok)
    (loos : List Str) (mean : ExcName → Option Value) (mg mb : Str → Option Value) (news : CbLed) (un : Nat) (gd : Option (List Code)) (cn : Str) (cs : Scope) (a : Addr) (ccd : Value) (cl : List (Str × Addr)) (outer : List Env) (A₀ : Around) (base h₀ : Heap) (L : Addr) (m : Str → Option Value) (s : Shared) (Q E : Value → Shared → Prop)
    (hB : Below A₀ base outer h₀) (hF : Fr h₀ L s.heap m) (hK : (hd.heap_39 w.params).In h₀) (hN : News h₀ L s.heap news) (hT : Top hd.view_39 loos mean mg mb h₀) (hcs : cs.kind = .function)
    (hun : un + 8 < cLine)
    (hret : ∀ (x dx t2 tc : Addr) (vs : List Value) (cnt : List Int) (b nt : Nat) (raw : Value) (n : Int) (tn tnt tb : Tok) (sb : Bool) (k1 k2 k3 k4 k5 : Tok) (h' : Heap) (tk' : Nat), Tells l cnt b nt → IntsAre vs cnt →
      Fr h₀ L h' m → News h₀ L h' ((x, instObj 132 dx) :: (dx, dictOf (whEs w raw n nt tn tnt t2 sb k1 k2 k3 k4 k5) 5) :: (t2, tupO [.ref tc, .int b tb]) :: (tc, tupO vs) :: news) →
      (∀ p ∈ news, p.1 < dx) → dx < x → x < tc → tc < t2 → Q (.ref x) { s with heap := h', toks := tk' }) :
      wpAny (model PySem.Challenge.rw_tl0049_01.row.prog w) (ktrTop 302 un gd cn cs L a ccd cl outer) (call (.ref 132) [.str (T l) tr]) Q E s := by
  k_with_none
  revert hK
  k_fill
  intro hK
  obtain ⟨hp, gens, drawn, toks, os⟩ := s
  dsimp only at hF hN
  k_with "stop while" => skip
  k_with "pyIter str" => refine stop_of ?_
  k_with "tuple size" => ((have hlv := IntsAre.length hv); (simp only [List.size_toArray]); omega)
  have hMk : KstMark := kstMark
  walk_at "t_class"
  k_steps
  refine STOP.out ?_
  have hasc' : (T l).cps.all (· < 128) = true := by
    rw [Array.all_eq_true_iff_forall_mem]
    intro a ha
    simp [T] at ha
    exact decide_eq_true (hasc a ha)
  rename Fr _ _ _ _ => lF'
  rename News _ _ _ _ => lN'
  with_unfolding_all
   refine' kst_textR (σ := WSt) (fun c => c.1) (fun c => W.listOf c.2.2.1.toArray c.2.2.2.1)
    (fun c => [(Str.ofString "count", .ref c.1), (Str.ofString "b", .int c.2.2.2.2.1.1 c.2.2.2.2.1.2), (Str.ofString "n", .int c.2.2.2.2.2.1.1 c.2.2.2.2.2.1.2), (Str.ofString "nt", .int c.2.2.2.2.2.2.1 c.2.2.2.2.2.2.2)]) []
    (fun i c => IntsAre c.2.2.1 c.2.1 ∧ i ≤ l.length ∧ (∀ a ∈ l.take i, a = 32 ∨ a = 9) ∧ ∃ b nt : Nat, c.2.2.2.2.1.1 = b ∧ c.2.2.2.2.2.2.1 = nt ∧ WInv c.2.1 b nt (l.take i) ∧ b ≤ i ∧ c.2.1.length ≤ i + 1)
    (_, [], [], 0, (0, _), (0, _), (0, _)) hasc' ?hh lF' lN' ?kl ?kk ?kp ?_ ?_
  case hh => rfl
  case kk => kst_all
  case kp => exact ⟨.nil, Nat.zero_le _, by simp, 0, 0, rfl, rfl, WInv.nil, Nat.le_refl _, by simp⟩
  case kl => exact kst_ltOf (by assumption)
  all_goals clear lF' lN'
  · rintro I hI ⟨c, cnt, vs, e, ⟨b, tb⟩, ⟨n, tn⟩, nt, tnt⟩ i g t u it h tk hic hg hcI hcl ⟨hv, hi, hall, b', nt', hb', hnt', hW, hbi, hli⟩ F' N'
    dsimp only at hg hcI hcl hv hi hall hb' hnt' hW hli F' N' ⊢
    subst hb' hnt'
    have hI' := allLt_of hI
    have hcl' := allLt_of hcl
    simp only [AllLt] at hI' hcl'
    have hg' : l[i]? = some g := by simpa [T] using hg
    have hlt : i < l.length := by
      rcases Nat.lt_or_ge i l.length with h' | h'
      · exact h'
      · rw [List.getElem?_eq_none h'] at hg'; cases hg'
    have htk := take_snoc hg'
    (try k_unmd); (try k_fold)
    by_cases h32 : g = 32
    · subst h32
      have hall' : ∀ a ∈ l.take (i + 1), a = 32 ∨ a = 9 := by
        rw [htk]; intro a ha
        rcases List.mem_append.mp ha with ha | ha
        · exact hall a ha
        · rw [List.mem_singleton.mp ha]; exact .inl rfl
      k_steps
      exact kstw_end (c, cnt, vs, e, (_, _), (_, _), (_, _)) (by k_asm) (by k_asm) (by k_mem) (fun p hp => List.mem_cons_of_mem _ hp) (off_of hcI hI) (by kst_all) (by walk_at "t_same4")
        ⟨hcl, hv, hlt, hall', b' + 1, nt', by simp, rfl, by rw [htk]; exact hW.blank (by decide), by omega, by dsimp only; omega⟩
    · by_cases h9 : g = 9
      · subst h9
        have hall' : ∀ a ∈ l.take (i + 1), a = 32 ∨ a = 9 := by
          rw [htk]; intro a ha
          rcases List.mem_append.mp ha with ha | ha
          · exact hall a ha
          · rw [List.mem_singleton.mp ha]; exact .inr rfl
        rcases Nat.lt_or_ge b' cnt.length with hb | hb
        · have hgd := getD_some hb
          k_steps
          rename IntsAre (List.set _ _ _) _ => hi2
          rename News _ _ _ _ => N9
          simp only [Int.toNat_natCast] at hi2 N9
          exact kstw_end (c, _, _, e, (_, _), (_, _), (_, _)) (by k_asm) (by k_asm) (by k_mem) (fun p hp => List.mem_cons_of_mem _ hp) (off_of hcI hI) (by kst_all) (by walk_at "t_same4")
            ⟨hcl, hi2, hlt, hall', 0, nt' + 1, rfl, by simp, by rw [htk]; exact hW.tab hgd, by omega, by dsimp only; rw [List.length_set]; omega⟩
        · k_steps
          rename IntsAre (List.set _ _ _) _ => hi2
          rename News _ _ _ _ => N9
          simp only [Int.toNat_natCast, flat_zeros] at hi2 N9
          generalize hzn : ((b' : Int) - (cnt.length : Int) + 1).toNat = zn at hi2 N9
          have hgd := getD_some (l := cnt ++ List.replicate zn 0) (b := b') (by rw [List.length_append, List.length_replicate]; omega)
          rename _ ∧ _ => lq
          exact kstw_end (_, _, _, _, (_, _), (_, _), (_, _)) (by k_asm) (by k_asm) (by k_mem)
            (fun p hp => by
              rcases List.mem_cons.mp hp with rfl | hp
              · exact List.mem_cons_self ..
              · exact List.mem_cons_of_mem _ (List.mem_cons_of_mem _ (List.mem_cons_of_mem _ (List.mem_cons_of_mem _ (List.mem_cons_of_mem _ hp)))))
            (off_of (by k_ne) hI) (by kst_all) (by walk_at "t_same4")
            ⟨kst_ltOf lq.2.2.2.2, hi2, hlt, hall', 0, nt' + 1, rfl, by simp, by rw [htk]; exact (hW.ext (n := zn)).tab hgd, by omega, by dsimp only; rw [List.length_set, List.length_append, List.length_replicate]; omega⟩
      · have hb32 : ([g] == [32]) = false := by simp [h32]
        have hb9 : ([g] == [9]) = false := by simp [h9]
        k_steps
        rename _ ∧ _ => lq
        exact hret _ _ _ _ vs cnt b' nt' _ _ _ _ _ _ _ _ _ _ _ _ _
          ⟨by rw [wsp_stop hall hg' h32 h9]; exact hW, by omega, by omega⟩ hv (by k_asm)
          (cb_drop (by k_asm) (List.forall_mem_cons.mpr ⟨by k_mem, List.forall_mem_cons.mpr ⟨by k_mem, List.forall_mem_cons.mpr ⟨by k_mem, List.forall_mem_cons.mpr ⟨by k_mem, fun p hp => by
            iterate 7 (refine List.mem_cons_of_mem _ ?_)
            exact hp⟩⟩⟩⟩))
          (by assumption) (ltN (by omega)) (ltN (by omega)) (ltN (by omega))
  · rintro ⟨c, cnt, vs, e, ⟨b, tb⟩, ⟨n, tn⟩, nt, tnt⟩ u h tk hcl ⟨hv, hi, hall, b', nt', hb', hnt', hW, hbi, hli⟩ F' N'
    have hsz : (T l).cps.size = l.length := T_len l
    dsimp only at hcl hv hi hall hb' hnt' hW hli F' N' ⊢
    rw [hsz] at hi hall hW hbi hli
    rw [List.take_length] at hall hW
    subst hb' hnt'
    have hcl' := allLt_of hcl
    simp only [AllLt] at hcl'
    (try k_unmd); (try k_fold)
    k_steps
    rename _ ∧ _ => lq
    exact hret _ _ _ _ vs cnt b' nt' _ _ _ _ _ _ _ _ _ _ _ _ _
      ⟨by rw [wsp_all hall]; exact hW, by omega, by omega⟩ hv (by k_asm)
      (cb_drop (by k_asm) (List.forall_mem_cons.mpr ⟨by k_mem, List.forall_mem_cons.mpr ⟨by k_mem, List.forall_mem_cons.mpr ⟨by k_mem, List.forall_mem_cons.mpr ⟨by k_mem, fun p hp => by
        iterate 6 (refine List.mem_cons_of_mem _ ?_)
        exact hp⟩⟩⟩⟩))
      (by assumption) (ltN (by omega)) (ltN (by omega)) (ltN (by omega))
-- W8
theorem c_indent (w : World) (l : List Nat) (x dx t2 tc : Addr) (vs : List Value) (cnt : List Int) (b nt : Nat) (raw : Value) (n : Int) (tn tnt tb : Tok) (sb : Bool) (k1 k2 k3 k4 k5 : Tok)
    (ts : Nat) (h1 : 1 ≤ ts) (h2 : ts ≤ 100) (tt : Tok) (hw : Tells l cnt b nt) (hv : IntsAre vs cnt)
    (loos : List Str) (mean : ExcName → Option Value) (mg mb : Str → Option Value) (news : CbLed) (un : Nat) (gd : Option (List Code)) (cn : Str) (cs : Scope) (a : Addr) (ccd : Value) (cl : List (Str × Addr)) (outer : List Env) (A₀ : Around) (base h₀ : Heap) (L : Addr) (m : Str → Option Value) (s : Shared) (Q E : Value → Shared → Prop)
    (hB : Below A₀ base outer h₀) (hF : Fr h₀ L s.heap m) (hK : (hd.heap_39 w.params).In h₀)
    (hN : News h₀ L s.heap ((x, instObj 132 dx) :: (dx, dictOf (whEs w raw n nt tn tnt t2 sb k1 k2 k3 k4 k5) 5) :: (t2, tupO [.ref tc, .int b tb]) :: (tc, tupO vs) :: news))
    (hT : Top hd.view_39 loos mean mg mb h₀) (hcs : cs.kind = .function)
    (hret : ∀ (t : Tok) (h' : Heap) (tk' : Nat), 
      Fr h₀ L h' m → News h₀ L h' ((x, instObj 132 dx) :: (dx, dictOf (whEs w raw n nt tn tnt t2 sb k1 k2 k3 k4 k5) 5) :: (t2, tupO [.ref tc, .int b tb]) :: (tc, tupO vs) :: news) →
      Q (.int (colZ ts (wsp l)) t) { s with heap := h', toks := tk' }) :
      wpAny (model PySem.Challenge.rw_tl0049_01.row.prog w) (ktrTop 302 un gd cn cs L a ccd cl outer) (call (.ref 101) [.ref x, .int ts tt]) Q E s := by
  k_with_none
  revert hK
  k_fill
  intro hK
  obtain ⟨hp, gens, drawn, toks, os⟩ := s
  dsimp only at hF hN
  k_with "stop range" => skip
  k_with "tuple size" => (have := hw.2.2; omega)
  have hMk : KstMark := kstMark
  refine wpAny_call ?_
  k_dflt cell_enter
  k_steps
  refine STOP.out ?_
  rename IsRange _ _ _ _ _ _ _ _ => rgX
  rename Fr _ _ _ _ => lF'
  rename News _ _ _ _ => lN'
  have hlc := hw.2.2
  with_unfolding_all
   refine' kst_range (σ := Int × Tok) (fun _ => (x, instObj 132 dx) :: (dx, dictOf (whEs w raw n nt tn tnt t2 sb k1 k2 k3 k4 k5) 5) :: (t2, tupO [.ref tc, .int b tb]) :: (tc, tupO vs) :: news)
    (fun c => [(Str.ofString "il", .int c.1 c.2)]) (fun _ => True) []
    (fun pre c => c.1 = sumJ ts ts ((cnt.drop ts).take pre.length)) (0, _) ?hh rgX ?hs (rangeSize_nat _ _) lF' lN' True.intro ?kk ?kp ?_ ?_
  case hh => rfl
  case hs => exact small_one (by omega) (by omega) (by omega) (by omega)
  case kk => kst_all
  case kp => rfl
  all_goals clear lF' lN'
  · rintro ⟨il, ti⟩ pre k t u h tk own hk hlt hoff _ hp F' N'
    dsimp only at hp F' N' ⊢
    have hix : cnt[ts + pre.length]? = some (cnt.getD (ts + pre.length) 0) := getD_some (by omega)
    have hix' : ∀ j : Int, j = k → cnt[j.toNat]? = some (cnt.getD (ts + pre.length) 0) := fun j hj => by
      rw [hj, hk, show ((ts : Int) + (pre.length : Int)).toNat = ts + pre.length by omega]; exact hix
    have hix2 : (cnt.drop ts)[pre.length]? = some (cnt.getD (ts + pre.length) 0) := by rw [List.getElem?_drop]; exact hix
    generalize cnt.getD (ts + pre.length) 0 = v at hix hix' hix2
    (try k_unmd); (try k_fold)
    k_with "tuple item" => exact hix' _ rfl
    have hk0 : (0 : Int) ≤ k.fdiv ts := Int.fdiv_nonneg (by omega) (by omega)
    have hk1 : k.fdiv ts ≤ k := by rw [Int.fdiv_eq_ediv_of_nonneg _ (by omega)]; exact Int.ediv_le_self _ (by omega)
    k_with "mul ok" => exact PySem.IntMulOk.of_left (PySem.intBits_le_64 (by omega) (by omega))
    k_steps
    exact kst_end (_, _) (by k_asm) (by k_asm) (fun p hp => List.mem_append_left _ hp) (fun p hp => List.mem_append_right _ hp) rfl True.intro (by kst_all) (by walk_at "t_same4")
      (by
        dsimp only
        rw [List.length_append, List.length_singleton, sumJ_snoc hix2, hp, hk, Int.fdiv_eq_ediv_of_nonneg _ (by omega)]
        rfl)
  · rintro ⟨il, ti⟩ u h tk _ hp F' N'
    dsimp only at hp F' N' ⊢
    rw [rangeKs_length, List.take_of_length_le (by rw [List.length_drop]; omega), sumJ_drop h1] at hp
    subst hp
    (try k_unmd); (try k_fold)
    k_steps
    rw [hw.1 ts h1] at hret
    exact hret _ _ _ (by k_asm) (by k_asm)
-- W9
theorem c_getall (w : World) (es : List Ent) (hes : es.length ≤ 4) (x dx li : Addr) (k : Tok) (ep : Nat) (tt : Tok)
    (loos : List Str) (mean : ExcName → Option Value) (mg mb : Str → Option Value) (rest : CbLed) (un : Nat) (gd : Option (List Code)) (cn : Str) (cs : Scope) (a : Addr) (ccd : Value) (cl : List (Str × Addr)) (outer : List Env) (A₀ : Around) (base h₀ : Heap) (L : Addr) (m : Str → Option Value) (s : Shared) (Q E : Value → Shared → Prop)
    (hB : Below A₀ base outer h₀) (hF : Fr h₀ L s.heap m) (hK : (hd.heap_39 w.params).In h₀)
    (hown : ∀ e ∈ es, (e.1, entO e) ∈ rest)
    (hN : News h₀ L s.heap ((x, instObj 280 dx) :: (dx, dictOf (hdEs w li k) 1) :: (li, W.listOf (es.map fun e => Value.ref e.1).toArray ep) :: rest))
    (hT : Top hd.view_39 loos mean mg mb h₀) (hcs : cs.kind = .function)
    (hret : ∀ (D : Addr) (h' : Heap) (tk' : Nat), 
      Fr h₀ L h' m → News h₀ L h' ((D, LCg.lst (es.map fun e => Value.str (T e.2.2.1) e.2.2.2)) :: (x, instObj 280 dx) :: (dx, dictOf (hdEs w li k) 1) :: (li, W.listOf (es.map fun e => Value.ref e.1).toArray ep) :: rest) →
      Q (.ref D) { s with heap := h', toks := tk' }) :
      wpAny (model PySem.Challenge.rw_tl0049_01.row.prog w) (ktrTop 302 un gd cn cs L a ccd cl outer) (call (.ref 219) [.ref x, .str (Str.ofString "dIR") tt]) Q E s := by
  k_with_none
  revert hK
  k_fill
  intro hK
  obtain ⟨hp, gens, drawn, toks, os⟩ := s
  dsimp only at hF hN
  k_with "stop comp" => skip
  k_with "off N" => exact fun a ha => offN ((by decide : ∀ a ∈ [100,105,114], a ∈ [68, 105, 114, 100, 116]) a ha)
  have hMk : KstMark := kstMark
  refine wpAny_call ?_
  k_dflt (refine' code_defC ?k1 ?k2 ?k3 ?k4 ?k5 ?kA ?kF ?kK ?k6 ?k7 ?k8 ?k9 ?kB ?kD ?_ ?c2 ?c3 ?c4; (case kA => exact rfl); (case kF => exact rfl); (case kK => assumption); (case k1 => k_asm); (case k2 => k_asm); (case k3 => k_asm); (case k4 => k_asm); (case k5 => k_asm); (case k6 => k_is); (case k7 => k_is); (case k8 => k_room); (case k9 => first | exact BindsTo.of_eq rfl | exact binds_K (by k_in) rfl (by k_is) rfl rfl rfl | fail "k_enter: no rule for these arguments"); (case kB => exact rfl); (case kD => decide +kernel); (case c2 => exact rfl); (case c3 => exact rfl); (case c4 => exact rfl); k_whole; intro g' L' h' tk' cells' FG' F' N' Y' B' X' T' l1; (try k_lt l1); k_cells Y'; (try simp only [List.cons_append, List.nil_append] at N'); (try dsimp only); (try k_lift B'); (try k_fold))
  have hal : ∀ p ∈ rest, p.1 < L' + 1 := fun p hp => Nat.lt_succ_of_lt (kst_ltOf l1.2.2.2 p hp)
  k_steps
  refine STOP.out ?_
  refine LCt.CompSrcT.ledger (by rfl) (by k_asm) (by k_asm) (by k_mem) (by rw [List.size_toArray, List.length_map, sizeLine_eq]; omega) ?_
  intro g9
  refine kce_rest es (fun e => Value.ref e.1) (fun e => Value.str (T e.2.2.1) e.2.2.2) (by rw [List.size_toArray, List.length_map]) ?_ ?_ ?_
  · intro i v hv
    rw [List.getElem?_toArray, List.getElem?_map] at hv
    cases he : es[i]? with
    | none => rw [he] at hv; cases hv
    | some e => rw [he] at hv; cases hv; exact ⟨e, rfl, rfl⟩
  · intro e I oI C oC D m₂ ys h tk E' he hC hx F N off ne
    have he2 := hown e he
    rename_i oc _
    have hN2 : News _ _ h ((e.1, entO e) :: _) := fun p hp => (List.mem_cons.mp hp).elim (fun q => q ▸ N (e.1, entO e) (by simp only [List.mem_cons]; simp [he2])) (fun q => N p q)
    clear N
    k_steps
    refine STOP.out ?_
    exact LCg.CompEnd.intro F hN2 _ (fun p hp => List.mem_cons_of_mem _ hp) off (Or.inr ⟨_, by k_mem, rfl, _, rfl⟩) ⟨rfl, rfl⟩
  · k_steps
    exact hret _ _ _ (by k_asm) (cb_drop (by k_asm) (List.forall_mem_cons.mpr ⟨by k_mem, fun p hp => List.mem_cons_of_mem _ (List.mem_cons_of_mem _ hp)⟩))
-- W10

theorem c_addheader (w : World) (es : List Ent) (hes : es.length ≤ 3) (x dx li : Addr) (k : Tok) (ep : Nat) (tn tr : Tok) (r : List Nat) (hr : r ≠ []) (hrz : r.length ≤ 200) (hrs : ∀ a ∈ r, a ∈ [34, 92, 120])
    (loos : List Str) (mean : ExcName → Option Value) (mg mb : Str → Option Value) (rest : CbLed) (un : Nat) (gd : Option (List Code)) (cn : Str) (cs : Scope) (a : Addr) (ccd : Value) (cl : List (Str × Addr)) (outer : List Env) (A₀ : Around) (base h₀ : Heap) (L : Addr) (m : Str → Option Value) (s : Shared) (Q E : Value → Shared → Prop)
    (hB : Below A₀ base outer h₀) (hF : Fr h₀ L s.heap m) (hK : (hd.heap_39 w.params).In h₀)
    (hxl : @Ne Nat x li) (hdl : @Ne Nat dx li) (hrl : ∀ p ∈ rest, p.1 ≠ li)
    (hN : News h₀ L s.heap ((x, instObj 280 dx) :: (dx, dictOf (hdEs w li k) 1) :: (li, W.listOf (es.map fun e => Value.ref e.1).toArray ep) :: rest))
    (hT : Top hd.view_39 loos mean mg mb h₀) (hcs : cs.kind = .function)
    (hret : ∀ (D : Addr) (t1 t2 : Tok) (ep' : Nat) (h' : Heap) (tk' : Nat), @Ne Nat D li → @LT.lt Nat _ x D → (∀ p ∈ rest, p.1 < D) →
      Fr h₀ L h' m → News h₀ L h' ((D, entO (D, t1, [116, 61, 34] ++ (esc r ++ [34]), t2)) :: (x, instObj 280 dx) :: (dx, dictOf (hdEs w li k) 1) :: (li, W.listOf ((es ++ [(D, t1, [116, 61, 34] ++ (esc r ++ [34]), t2)]).map fun e : Ent => Value.ref e.1).toArray ep') :: rest) →
      Q .none { s with heap := h', toks := tk' }) :
      wpAny (model PySem.Challenge.rw_tl0049_01.row.prog w) (ktrTop 302 un gd cn cs L a ccd cl outer) (call (.ref 277) [.ref x, .str (Str.ofString "Dir") tn, .none] [(Str.ofString "t", .str (T r) tr)]) Q E s := by
  k_with_none
  revert hK
  k_fill
  intro hK
  obtain ⟨hp, gens, drawn, toks, os⟩ := s
  dsimp only at hF hN
  k_with "stop comp" => skip
  have hMk : KstMark := kstMark
  k_with "off N" => first | exact fun a ha => offN ((by decide : ∀ a ∈ [116], a ∈ [68, 105, 114, 100, 116]) a ha) | exact fun a ha => offN ((by decide : ∀ a ∈ [68, 105, 114], a ∈ [68, 105, 114, 100, 116]) a ha)
  k_with "off V" => exact fun a ha => offV (hrs a ha)
  k_with "replace size" => exact Nat.le_trans (repl_len (by decide) r) (by omega)
  have hL2 : (repl 34 [92, 34] (repl 92 [92, 92] r)).length ≤ 800 := Nat.le_trans (repl_len (by decide) _) (by have := repl_len (c := 92) (z := [92, 92]) (by decide) r; omega)
  k_with "size" => (rw [sizeLine_eq]; (try simp only [strLen_append, lit_eqq, lit_q, T_len, List.length_cons, List.length_nil]); (try simp only [show Str.empty.length = 0 from rfl]); omega)
  have hform : Str.ofString "t=\"" ++ T (repl 34 [92, 34] (repl 92 [92, 92] r)) ++ Str.ofString "\"" = T ([116, 61, 34] ++ (esc r ++ [34])) := by
    rw [lit_teq, lit_q, T_app, T_app, repl_esc, List.append_assoc]
    rfl
  have hesc : (esc r).length ≤ 800 := by
    rw [show esc r = repl 34 [92, 34] (repl 92 [92, 92] r) from (repl_esc r).symm]
    exact hL2
  k_with "join form" => exact hform
  k_with "join size" => (simp only [List.length_append, List.length_cons, List.length_nil]; omega)
  have hoo : OwnOff rest [li] := fun p hp a ha => by rw [List.mem_singleton.mp ha]; exact hrl p hp
  have hr0 : (0 : Int) < (r.length : Int) := by
    cases r with
    | nil => exact absurd rfl hr
    | cons c r => rw [List.length_cons]; omega
  k_with "kw for" => ((rename Fr _ _ _ _ => lF'); (rename News _ _ _ _ => lN'); with_unfolding_all ((refine' For_turns lF' ?_); k_whole; (refine MethodCall_ ?_); (refine ld lF' (by rfl) ?_); (refine kdl_method (knd := PySem.strKind _ _) PySem.F.slot_dict_items PySem.F.type_dict_items lN' (by k_mem) (by k_asm) ?_); (refine callWith_method0 ?_); (refine kta_callItems (knd := PySem.strKind _ _) lF' lN' (by k_mem) (by k_asm) (by k_asm) ?_); intro h' hv' F' N'; (refine kta_items (knd := PySem.strKind _ _) (enc := PyData.str) (xs := [Itm.pair (fun t => Value.str (Str.ofString "t") t) (Value.str (T r) tr)]) (by rfl) F' N' hv' (by k_mem) (by k_asm) (fun _ _ h => Value.isStrOf_shape h) (by rfl) ?_)); clear lF' lN'; intro i' l1; (try k_lt l1))
  cases cs
  cases hcs
  refine wpAny_call ?_
  k_dflt k_enter
  rename PyProof.V.FlatPairs _ _ _ => hfl
  clear hfl
  k_steps
  refine STOP.out ?_
  rename Fr _ _ _ _ => lF'
  rename News _ _ _ _ => lN'
  refine ⟨_, _, _, _, rfl, lF', lN', ?_, ?_, ?_⟩
  · intro p hp q hq
    rw [List.mem_singleton.mp hq]
    clear hq q
    revert p
    dsimp only
    k_all
  · k_subL
  clear lF' lN'
  k_steps
  rename Fr h₀ L _ _ => lF'
  rename News h₀ L _ _ => lN'
  rename _ ∧ _ => l9
  simp only [List.push_toArray] at lN'
  simp only [List.map_append, List.map_cons, List.map_nil] at hret
  refine hret _ _ _ _ _ _ ?_ l9.2.2.1 (kst_ltOf l9.2.2.2.2.2) lF' (cb_drop lN' (List.forall_mem_cons.mpr ⟨.head _, List.forall_mem_cons.mpr ⟨.tail _ (.tail _ (.tail _ (.head _))), List.forall_mem_cons.mpr ⟨.tail _ (.tail _ (.tail _ (.tail _ (.head _)))), List.forall_mem_cons.mpr ⟨.tail _ (.tail _ (.tail _ (.tail _ (.tail _ (.head _))))), fun p hp => .tail _ (.tail _ (.tail _ (.tail _ (.tail _ (.tail _ hp)))))⟩⟩⟩⟩))
  exact (Nat.ne_of_lt l9.2.2.2.2.1).symm
-- Lg
section
variable {w : World} {loos : List Str} {mean : ExcName → Option Value} {mg mb : Str → Option Value} {news : CbLed} {un : Nat} {gd : Option (List Code)} {cn : Str} {cs : Scope} {a : Addr} {ccd : Value} {cl : List (Str × Addr)} {outer : List Env} {A₀ : Around} {base h₀ : Heap} {L : Addr} {m : Str → Option Value} {s : Shared} {Q E : Value → Shared → Prop}
theorem l_parse {y : Str} {z r : List Nat} {tr : Tok} (hB : Below A₀ base outer h₀) (hF : Fr h₀ L s.heap m) (hK : (hd.heap_39 w.params).In h₀) (hN : News h₀ L s.heap news) (hT : Top hd.view_39 loos mean mg mb h₀) (hcs : cs.kind = .function) (hun : un + 8 < cLine)
    (hy : y = T (50 :: 53 :: 55 :: 32 :: 34 :: z)) (hz : z.length ≤ 1000) (hq : pq z = r)
    (hret : ∀ (t : Tok) (h' : Heap) (tk' : Nat), Fr h₀ L h' m → News h₀ L h' news → Q (.str (T r) t) { s with heap := h', toks := tk' }) :
    wpAny (model PySem.Challenge.rw_tl0049_01.row.prog w) (ktrTop 302 un gd cn cs L a ccd cl outer) (call (.ref 70) [.str y tr]) Q E s := by
  subst hy hq
  exact c_parse w z hz tr loos mean mg mb news 302 un gd cn cs a ccd cl outer A₀ base h₀ L m s Q E hB hF hK hN hT hcs trivial (by decide) hun hret
theorem l_walk {l : List Nat} {y : Str} {v : Int} {sz : Nat} {tr ts : Tok} (hB : Below A₀ base outer h₀) (hF : Fr h₀ L s.heap m) (hK : (hd.heap_39 w.params).In h₀) (hN : News h₀ L s.heap news) (hT : Top hd.view_39 loos mean mg mb h₀) (hcs : cs.kind = .function) (hun : un + 8 < cLine)
    (hy : y = T l) (hz : l.length ≤ 1000) (hv : v = (sz : Int)) (h1 : 1 ≤ sz)
    (hret : ∀ (t : Tok) (h' : Heap) (tk' : Nat), Fr h₀ L h' m → News h₀ L h' news → Q (.int (wk sz l : Int) t) { s with heap := h', toks := tk' }) :
    wpAny (model PySem.Challenge.rw_tl0049_01.row.prog w) (ktrTop 302 un gd cn cs L a ccd cl outer) (call (.ref 291) [.str y tr, .int v ts]) Q E s := by
  subst hy hv
  exact c_walk w l hz tr sz h1 ts loos mean mg mb news 302 un gd cn cs a ccd cl outer A₀ base h₀ L m s Q E hB hF hK hN hT hcs trivial (by decide) hun hret
theorem l_add {es : List Ent} {x dx li : Addr} {k : Tok} {ep : Nat} {tn tr : Tok} {y : Str} {r : List Nat} {rest : CbLed} (hB : Below A₀ base outer h₀) (hF : Fr h₀ L s.heap m) (hK : (hd.heap_39 w.params).In h₀)
    (hN : News h₀ L s.heap ((x, instObj 280 dx) :: (dx, dictOf (hdEs w li k) 1) :: (li, W.listOf (es.map fun e => Value.ref e.1).toArray ep) :: rest)) (hT : Top hd.view_39 loos mean mg mb h₀) (hcs : cs.kind = .function)
    (hes : es.length ≤ 3) (hy : y = T r) (hr : r ≠ []) (hrz : r.length ≤ 200) (hrs : ∀ a ∈ r, a ∈ [34, 92, 120]) (hxl : @Ne Nat x li) (hdl : @Ne Nat dx li) (hrl : ∀ p ∈ rest, p.1 ≠ li)
    (hret : ∀ (D : Addr) (t1 t2 : Tok) (ep' : Nat) (h' : Heap) (tk' : Nat), @LT.lt Nat _ x D → (∀ p ∈ rest, p.1 < D) →
      Fr h₀ L h' m → News h₀ L h' ((x, instObj 280 dx) :: (dx, dictOf (hdEs w li k) 1) :: (li, W.listOf ((es ++ [(D, t1, [116, 61, 34] ++ (esc r ++ [34]), t2)]).map fun e : Ent => Value.ref e.1).toArray ep') :: (D, entO (D, t1, [116, 61, 34] ++ (esc r ++ [34]), t2)) :: rest) →
      Q .none { s with heap := h', toks := tk' }) :
    wpAny (model PySem.Challenge.rw_tl0049_01.row.prog w) (ktrTop 302 un gd cn cs L a ccd cl outer) (call (.ref 277) [.ref x, .str (Str.ofString "Dir") tn, .none] [(Str.ofString "t", .str y tr)]) Q E s := by
  subst hy
  exact c_addheader w es hes x dx li k ep tn tr r hr hrz hrs loos mean mg mb rest un gd cn cs a ccd cl outer A₀ base h₀ L m s Q E hB hF hK hxl hdl hrl hN hT hcs fun D t1 t2 ep' h' tk' _ h2 h3 F N =>
    hret D t1 t2 ep' h' tk' h2 h3 F fun p hp => by
      rcases List.mem_cons.mp hp with rfl | hp
      · exact N _ (.tail _ (.head _))
      rcases List.mem_cons.mp hp with rfl | hp
      · exact N _ (.tail _ (.tail _ (.head _)))
      rcases List.mem_cons.mp hp with rfl | hp
      · exact N _ (.tail _ (.tail _ (.tail _ (.head _))))
      rcases List.mem_cons.mp hp with rfl | hp
      · exact N _ (.head _)
      · exact N _ (.tail _ (.tail _ (.tail _ (.tail _ hp))))
theorem l_get {es : List Ent} {x dx li : Addr} {k : Tok} {ep : Nat} {tt : Tok} {rest : CbLed} (hB : Below A₀ base outer h₀) (hF : Fr h₀ L s.heap m) (hK : (hd.heap_39 w.params).In h₀)
    (hN : News h₀ L s.heap ((x, instObj 280 dx) :: (dx, dictOf (hdEs w li k) 1) :: (li, W.listOf (es.map fun e => Value.ref e.1).toArray ep) :: rest)) (hT : Top hd.view_39 loos mean mg mb h₀) (hcs : cs.kind = .function)
    (hes : es.length ≤ 4) (hown : ∀ e ∈ es, (e.1, entO e) ∈ rest)
    (hret : ∀ (D : Addr) (h' : Heap) (tk' : Nat), Fr h₀ L h' m → News h₀ L h' ((D, LCg.lst (es.map fun e => Value.str (T e.2.2.1) e.2.2.2)) :: (x, instObj 280 dx) :: (dx, dictOf (hdEs w li k) 1) :: (li, W.listOf (es.map fun e => Value.ref e.1).toArray ep) :: rest) →
      Q (.ref D) { s with heap := h', toks := tk' }) :
    wpAny (model PySem.Challenge.rw_tl0049_01.row.prog w) (ktrTop 302 un gd cn cs L a ccd cl outer) (call (.ref 219) [.ref x, .str (Str.ofString "dIR") tt]) Q E s :=
  c_getall w es hes x dx li k ep tt loos mean mg mb rest un gd cn cs a ccd cl outer A₀ base h₀ L m s Q E hB hF hK hown hN hT hcs hret
theorem l_white {l : List Nat} {y : Str} {tr : Tok} (hB : Below A₀ base outer h₀) (hF : Fr h₀ L s.heap m) (hK : (hd.heap_39 w.params).In h₀) (hN : News h₀ L s.heap news) (hT : Top hd.view_39 loos mean mg mb h₀) (hcs : cs.kind = .function) (hun : un + 8 < cLine)
    (hy : y = T l) (hz : l.length ≤ 1000) (hasc : ∀ a ∈ l, a < 128)
    (hret : ∀ (x dx t2 tc : Addr) (vs : List Value) (cnt : List Int) (b nt : Nat) (raw : Value) (n : Int) (tn tnt tb : Tok) (sb : Bool) (k1 k2 k3 k4 k5 : Tok) (h' : Heap) (tk' : Nat), Tells l cnt b nt → IntsAre vs cnt →
      Fr h₀ L h' m → News h₀ L h' ((x, instObj 132 dx) :: (dx, dictOf (whEs w raw n nt tn tnt t2 sb k1 k2 k3 k4 k5) 5) :: (t2, tupO [.ref tc, .int b tb]) :: (tc, tupO vs) :: news) →
      Q (.ref x) { s with heap := h', toks := tk' }) :
    wpAny (model PySem.Challenge.rw_tl0049_01.row.prog w) (ktrTop 302 un gd cn cs L a ccd cl outer) (call (.ref 132) [.str y tr]) Q E s := by
  subst hy
  exact c_white w l hz hasc tr loos mean mg mb news un gd cn cs a ccd cl outer A₀ base h₀ L m s Q E hB hF hK hN hT hcs hun fun x dx t2 tc vs cnt b nt raw n tn tnt tb sb k1 k2 k3 k4 k5 h' tk' h1 h2 h3 h4 _ _ _ _ =>
    hret x dx t2 tc vs cnt b nt raw n tn tnt tb sb k1 k2 k3 k4 k5 h' tk' h1 h2 h3 h4
theorem l_ind {l : List Nat} {x dx t2 tc : Addr} {vs : List Value} {cnt : List Int} {b nt : Nat} {raw : Value} {n : Int} {tn tnt tb : Tok} {sb : Bool} {k1 k2 k3 k4 k5 : Tok} {v : Int} {ts : Nat} {tt : Tok}
    (hB : Below A₀ base outer h₀) (hF : Fr h₀ L s.heap m) (hK : (hd.heap_39 w.params).In h₀)
    (hN : News h₀ L s.heap ((x, instObj 132 dx) :: (dx, dictOf (whEs w raw n nt tn tnt t2 sb k1 k2 k3 k4 k5) 5) :: (t2, tupO [.ref tc, .int b tb]) :: (tc, tupO vs) :: news)) (hT : Top hd.view_39 loos mean mg mb h₀) (hcs : cs.kind = .function)
    (hw : Tells l cnt b nt) (hi : IntsAre vs cnt) (hv : v = (ts : Int)) (h1 : 1 ≤ ts) (h2 : ts ≤ 100)
    (hret : ∀ (t : Tok) (h' : Heap) (tk' : Nat),
      Fr h₀ L h' m → News h₀ L h' ((x, instObj 132 dx) :: (dx, dictOf (whEs w raw n nt tn tnt t2 sb k1 k2 k3 k4 k5) 5) :: (t2, tupO [.ref tc, .int b tb]) :: (tc, tupO vs) :: news) →
      Q (.int (colZ ts (wsp l)) t) { s with heap := h', toks := tk' }) :
    wpAny (model PySem.Challenge.rw_tl0049_01.row.prog w) (ktrTop 302 un gd cn cs L a ccd cl outer) (call (.ref 101) [.ref x, .int v tt]) Q E s := by
  subst hv
  exact c_indent w l x dx t2 tc vs cnt b nt raw n tn tnt tb sb k1 k2 k3 k4 k5 ts h1 h2 tt hw hi loos mean mg mb news un gd cn cs a ccd cl outer A₀ base h₀ L m s Q E hB hF hK hN hT hcs hret
end
-- L1
set_option rowWalk.seconds 0
def nums (sc : List Int) : List Int := if sc = [] then [1, 0, 1, 2] else sc.take 6
theorem lawT : PySem.Challenge.rw_tl0049_01.Holds := hd (by
  k_with_none
  k_go0
  (all_goals try k_fold)
  have hMk : KstMark := kstMark
  have hMark : Mark := mark
  k_with "stop comp" => skip
  k_with "stop listcomp" => skip
  k_with "stop ifexp" => (rename Mark => hm9; clear hm9)
  k_steps
  refine STOP.out ?_
  rename Fr _ _ _ _ => lF'
  rename News _ _ _ _ => lN'
  rename List Int => sc
  rename IntsAre _ sc => hsc
  refine r_if (fun ns => nums sc = ns) lF' lN' ?_ ?_
  · k_steps
    · rename decide _ = _ => hd9
      rename News _ _ _ _ => N9
      rename _ ∧ _ => l9
      exact IfQ.intro (ns := [1, 0, 1, 2]) (.cons _ _ (.cons _ _ (.cons _ _ (.cons _ _ .nil)))) (by rw [nums, if_pos (of_decide_eq_true hd9)]) (by k_asm) N9 (List.forall_mem_cons.mpr ⟨.head _, List.forall_mem_cons.mpr ⟨.tail _ (.tail _ (.head _)), List.forall_mem_nil _⟩⟩) (List.forall_mem_cons.mpr ⟨l9.2, List.forall_mem_nil _⟩)
    · rename decide _ = _ => hd9
      rename News _ _ _ _ => N9
      rename _ ∧ _ => l9
      rename IntsAre _ (List.take 6 _) => hI9
      exact IfQ.intro hI9 (by rw [nums, if_neg (of_decide_eq_false hd9)]) (by k_asm) N9 (List.forall_mem_cons.mpr ⟨.head _, List.forall_mem_cons.mpr ⟨.tail _ (.tail _ (.head _)), List.forall_mem_nil _⟩⟩) (List.forall_mem_cons.mpr ⟨l9.2, List.forall_mem_nil _⟩)
  clear lF' lN'
  intro D ws ns n h' tk' hI hP F' N' hl'
  k_lt hl'
  k_steps
  refine STOP.out ?_
  have hn6 : ns.length ≤ 6 := by
    rw [← hP, nums]
    split
    · decide
    · rw [List.length_take]; omega
  have hn1 : ns ≠ [] := by
    rw [← hP, nums]
    split
    · simp
    · rename_i hne
      intro e
      cases sc with
      | nil => exact hne rfl
      | cons a b => simp at e
  refine LCg.CompSrc.ledger (by rfl) (by k_asm) (by k_asm) (by k_mem) (by rw [List.size_toArray, hI.length, sizeLine_eq]; omega) ?_
  intro g9
  refine txt_rest ns (fun k v => ∃ t, v = Value.int k t) (fun k => [sgn k]) (by rw [List.size_toArray, hI.length]) (fun i v hv => by
    obtain ⟨k, t, e, hk⟩ := IntsAre.at hI i v (by simpa using hv)
    exact ⟨k, hk, t, e⟩) ?_ ?_
  · rintro k v I oI C oC D m₂ ys h tk E' hk ⟨t, rfl⟩ hC hx F N off ne
    k_with "mine item" => exact sgn_get k
    k_with "item pos" => exact (fm4 k).1
    k_steps
    refine STOP.out ?_
    exact LCg.CompEnd.intro (by k_asm) (by k_asm) _ (fun p hp => hp) off (Or.inr ⟨_, by k_mem, rfl, _, rfl⟩) ⟨rfl, _, rfl⟩
  intro ys hys
  have hfl0 := flat_sgn ns
  have hl6 : (ns.map sgn).length ≤ 6 := by rw [List.length_map]; exact hn6
  have hl1 : ns.map sgn ≠ [] := fun e => hn1 (List.map_eq_nil_iff.mp e)
  have hls : ∀ a ∈ ns.map sgn, a ∈ [34, 92, 120] := fun a ha => by
    obtain ⟨k, _, rfl⟩ := List.mem_map.mp ha
    exact sgn_in k
  have hpl : (ns.map fun k => [sgn k]).length ≤ 65536 := by rw [List.length_map]; omega
  have hfr : ((ns.map sgn).takeWhile (· != 34)).length ≤ (ns.map sgn).length := (List.takeWhile_sublist _).length_le
  generalize ns.map sgn = l0 at hfl0 hl6 hl1 hls hfr
  k_with "joinE strs" => exact hys
  k_with "joinE flat" => exact hfl0
  k_with "joinE size" => omega
  k_with "stop range" => with_reducible show wpAny _ (Around.deeper callerA _) _ _ _ _
  k_steps
  refine STOP.out ?_
  rename Fr _ _ _ _ => lF'
  rename News _ _ _ _ => lN'
  rename IsRange _ _ _ _ _ _ _ _ => rgX
  with_unfolding_all
   refine' law_loop (l0 := l0) [Str.ofString "more", Str.ofString "due", Str.ofString "seen", Str.ofString "size"] ?zhh rgX lF' lN' ?zoc ?zrd ?_ ?_
  case zhh => rfl
  case zoc => assumption
  case zrd => rfl
  all_goals clear lF' lN'
  · rintro I hI ⟨rd, tr, m, es, ep, oc⟩ i t u it h tk hi hoff ⟨hrd, hm, hes, ⟨tm, hoc⟩, hex⟩ F' N'
    dsimp only [ledL] at hrd hm hes hoc hex F' N' hoff ⊢
    (try k_unmd); (try k_fold)
    have hMark2 : Mark2 := mark2
    k_with "stop if" => (rename Mark2 => hm9; clear hm9)
    have hrne : rd ≠ [] := by rw [hrd]; exact due_ne' hl1 hm
    have hrs : ∀ a ∈ rd, a ∈ [34, 92, 120] := by rw [hrd]; exact due_in' hls
    have hrz : rd.length ≤ 200 := by rw [hrd]; exact due_len' hl6 (by omega) hm
    have hm16 : m ≤ 16 := Nat.le_trans hm.2.1 (by have := Nat.pow_le_pow_right (show 0 < 2 by decide) (show i ≤ 4 by omega); simpa using this)
    have hes3 : es.length ≤ 3 := by omega
    have hoo := own_off (c := ⟨rd, tr, m, es, ep, oc⟩) N' hex (ltN (by omega)) (ltN (by omega)) (ltN (by omega))
    have hooI : OwnOff (es.map fun e => (e.1, entO e)) [I] := fun p hp b hb => by
      rw [List.mem_singleton.mp hb]
      exact hoff p (.tail _ (.tail _ (.tail _ (.tail _ hp))))
    dsimp only at hoo
    clear hoff
    k_steps
    refine STOP.out ?_
    refine law_meetR ⟨rd, tr, m, es, ep, oc⟩ l0 (i + 1) (by k_asm) N' ?_ ?_
    · have N2 := cb_drop N' (List.forall_mem_cons.mpr ⟨.tail _ (.head _), List.forall_mem_cons.mpr ⟨.tail _ (.tail _ (.head _)), List.forall_mem_cons.mpr ⟨.tail _ (.tail _ (.tail _ (.head _))), List.forall_mem_cons.mpr ⟨.head _, List.forall_mem_cons.mpr ⟨.tail _ (.tail _ (.tail _ (.tail _ (.head _)))), fun p hp => .tail _ (.tail _ (.tail _ (.tail _ (.tail _ hp))))⟩⟩⟩⟩⟩)
      clear N'
      have hrp : (repl 34 [34, 34] rd).length ≤ 400 := Nat.le_trans (repl_len (by decide) rd) (by omega)
      have hre : (esc rd).length ≤ 800 := by
        rw [show esc rd = repl 34 [92, 34] (repl 92 [92, 92] rd) from (repl_esc rd).symm]
        exact Nat.le_trans (repl_len (by decide) _) (by have := repl_len (c := 92) (z := [92, 92]) (by decide) rd; omega)
      have hq2 : pq (esc rd ++ [34]) = due l0 (2 * m) := by rw [hrd]; exact law_esc' hls hm
      k_with "parse size" => first | (show (repl 34 [34, 34] rd ++ [34, 32, 109, 97, 100, 101]).length ≤ 1000; simp only [List.length_append, List.length_cons, List.length_nil]; omega) | (show (esc rd ++ [34]).length ≤ 1000; simp only [List.length_append, List.length_cons, List.length_nil]; omega)
      k_with "contract" => first
        | (refine' l_parse ?zB ?zF ?zX ?zN ?zT ?zk ?zu ?zy ?zz ?zq ?_; (case zB => k_asm); (case zF => k_asm); (case zX => k_asm); (case zN => k_asm); (case zT => k_asm); (case zk => exact rfl); (case zu => decide); (case zy => exact rfl); (case zz => k_extra "parse size"); (case zq => first | exact law_dq' rd | exact hq2); intro t9 h9 tk9 F9 N9; (try k_sweep))
        | (refine' l_add ?zB ?zF ?zX ?zN ?zT ?zk ?z1 ?z2 ?z3 ?z4 ?z5 ?z6 ?z7 ?z8 ?_; (case zB => k_asm); (case zF => k_asm); (case zX => k_asm); (case zN => k_asm); (case zT => k_asm); (case zk => exact rfl); (case z1 => exact hes3); (case z2 => exact rfl); (case z3 => exact hrne); (case z4 => exact hrz); (case z5 => exact hrs); (case z6 => k_ne); (case z7 => k_ne); (case z8 => k_all); intro D9 t91 t92 ep9 h9 tk9 hx9 hl9 F9 N9; (try k_lt hl9); (try k_sweep))
        | (refine' l_get ?zB ?zF ?zX ?zN ?zT ?zk ?z1 ?z2 ?_; (case zB => k_asm); (case zF => k_asm); (case zX => k_asm); (case zN => k_asm); (case zT => k_asm); (case zk => exact rfl); (case z1 => (rw [List.length_append]; simp only [List.length_cons, List.length_nil]; omega)); (case z2 => exact own_new); intro D8 h8 tk8 F8 N8; (try k_sweep))
      k_with "last" => exact last_map _ _ _ _ _
      k_with "last size" => (rw [List.length_map, List.length_append]; simp only [List.length_cons, List.length_nil]; omega)
      k_with "mul ok" => exact PySem.IntMulOk.of_left (PySem.intBits_le_64 (by omega) (by omega))
      have hMark : Mark := mark
      k_with "drop D" => (rename Mark => hm9; clear hm9; (rename News _ _ _ _ => lN9); have lN8 := cb_drop lN9 (fun p hp => List.mem_cons_of_mem _ hp); clear lN9)
      k_steps
      · rename Fr _ _ _ _ => lF'
        rename News _ _ _ _ => lN'
        refine JoinQ.intro ⟨rd, _, m, es, ep, oc⟩ lF' (fun _ => rfl) lN' (List.forall_mem_cons.mpr ⟨by k_mem, List.forall_mem_cons.mpr ⟨by k_mem, List.forall_mem_cons.mpr ⟨by k_mem, List.forall_mem_cons.mpr ⟨by k_mem, List.forall_mem_cons.mpr ⟨by k_mem, fun p hp => .tail _ (.tail _ (.tail _ (.tail _ (.tail _ hp))))⟩⟩⟩⟩⟩) ⟨⟨hrd, hm.step, by dsimp only; omega, ⟨tm, hoc⟩, hex⟩, fun e he => hooI _ (List.mem_map.mpr ⟨e, he, rfl⟩) _ (.head _)⟩ (by omega)
      all_goals rename Fr _ _ _ _ => lF'
      all_goals rename News _ _ _ _ => lN'
      all_goals rename _ ∧ _ => lq
      all_goals rename _ = Data.cell _ => d9
      all_goals exact JoinQ.intro ⟨due l0 (2 * m), _, 2 * m, es ++ [(D9, t91, [116, 61, 34] ++ (esc rd ++ [34]), t92)], ep9, _⟩ lF' (fun _ => rfl) lN'
                      (List.forall_mem_cons.mpr ⟨.tail _ (.tail _ (.tail _ (.tail _ (.head _)))), List.forall_mem_cons.mpr ⟨.head _, List.forall_mem_cons.mpr ⟨.tail _ (.head _), List.forall_mem_cons.mpr ⟨.tail _ (.tail _ (.head _)), List.forall_mem_cons.mpr ⟨.tail _ (.tail _ (.tail _ (.tail _ (.tail _ (.head _))))), fun p hp => by
                        rw [List.map_append] at hp
                        rcases List.mem_append.mp hp with hp | hp
                        · exact .tail _ (.tail _ (.tail _ (.tail _ (.tail _ (.tail _ hp)))))
                        · rw [List.mem_singleton.mp hp]; exact .tail _ (.tail _ (.tail _ (.head _)))⟩⟩⟩⟩⟩)
                      ⟨⟨rfl, hm.twice, (by (dsimp only; rw [List.length_append]; simp only [List.length_cons, List.length_nil]; omega)), (cell_eq d9 (by show (m : Int) * 2 = ((2 * m : Nat) : Int); omega)),
                        fun e he => (List.mem_append.mp he).elim (hex e) (fun h => by rw [List.mem_singleton.mp h]; exact hx9)⟩,
                        fun e he => (List.mem_append.mp he).elim (fun h => hooI _ (List.mem_map.mpr ⟨e, h, rfl⟩) _ (.head _)) (fun h => by rw [List.mem_singleton.mp h]; exact (Nat.ne_of_lt lq.1).symm)⟩ (by omega)
    clear F' N' hrd hrne hrs hrz hm16 hes3 hoo hooI hex hoc hes hm
    rintro ⟨rd', tr', m', es', ep', oc'⟩ h2 tk2 htk2 F2 N2 ⟨⟨hrd', hm', hes', ⟨tm', hoc'⟩, hex'⟩, hne'⟩
    dsimp only [ledL, rdM] at F2 N2 hrd' hm' hes' hoc' hex' hne' ⊢
    subst hrd'
    have hrs' : ∀ a ∈ due l0 m', a ∈ [34, 92, 120] := due_in' hls
    have hrz' : (due l0 m').length ≤ 200 := due_len' hl6 (by omega) hm'
    have hm16' : m' ≤ 16 := Nat.le_trans hm'.2.1 (by have := Nat.pow_le_pow_right (show 0 < 2 by decide) (show i + 1 ≤ 4 by omega); simpa using this)
    have hMark2' : Mark2 := mark2
    have hMark3' : Mark3 := mark3
    k_with "text comp" => (rename Mark3 => hm9; clear hm9)
    have hm1' : 1 ≤ m' := hm'.1
    k_steps
    refine STOP.out ?_
    refine law_meet2 (due l0 m') (more l0 m') (by k_asm) (by k_asm) ?_ ?_
    · have hfr6 : (fr l0).length ≤ 6 := Nat.le_trans hfr hl6
      have hasc : (T (fr l0)).cps.all (· < 128) = true := by
        rw [Array.all_eq_true']
        intro a ha
        have ha2 : a ∈ fr l0 := by simpa [T] using ha
        have := hls a ((List.takeWhile_sublist _).subset ha2)
        simp only [List.mem_cons, List.not_mem_nil, or_false] at this
        rcases this with rfl | rfl | rfl <;> decide
      have hmul : ((fr l0).map fun a => if a = 92 then List.replicate m' 92 else [a]).flatten = mul m' (fr l0) := by rw [mul, List.flatMap_def]
      have hmlen : (mul m' (fr l0)).length ≤ 96 := Nat.le_trans (mul_len hm1' _) (Nat.mul_le_mul hm16' hfr6)
      have hmapl : ((fr l0).map fun a => if a = 92 then List.replicate m' 92 else [a]).length ≤ 6 := by rw [List.length_map]; exact hfr6
      k_steps
      · refine ⟨fr l0, _, _, rfl, hasc, rfl, by k_asm, by k_asm, ?_, ?_⟩
        · show (T (fr l0)).length ≤ _
          rw [T_len, sizeLine_eq]; omega
        intro g9
        refine txt_rest (fr l0) (fun k v => ∃ t, v = Value.str (T [k]) t) (fun a => if a = 92 then List.replicate m' 92 else [a]) (T_len _) (fun i v hv => sign_at hv) ?_ ?_
        · rintro k v I2 oI C oC D2 m2 ys2 h4 tk4 E4 hk ⟨t4, rfl⟩ hC hx F4 N4 off ne
          k_with "mul pos" => omega
          by_cases h92 : k = 92
          · subst h92
            k_steps
            refine STOP.out ?_
            exact LCg.CompEnd.intro (by k_asm) (by k_asm) _ (fun p hp => hp) off trivial ⟨rfl, _, rfl⟩
          · have hb92 : ([k] == [92]) = false := by simp [h92]
            k_steps
            refine STOP.out ?_
            exact LCg.CompEnd.intro (by k_asm) (by k_asm) _ (fun p hp => hp) off trivial ⟨rfl, _, congrArg (fun z => Value.str (T z) _) (if_neg h92).symm⟩
        intro ys2 hys2
        k_with "joinE strs" => exact hys2
        k_with "joinE flat" => exact hmul
        k_with "joinE size" => omega
        have h2m : 2 ≤ m' := by omega
        have hsub : (m' : Int) - 1 = ((m' - 1 : Nat) : Int) := by omega
        have hdiv : (m' : Int).fdiv 2 = ((m' / 2 : Nat) : Int) := by rw [Int.fdiv_eq_ediv_of_nonneg _ (by decide)]; rfl
        k_with "mul nat" => first | exact hsub | exact hdiv
        have hrl1 : (List.replicate (m' - 1) 92).length ≤ 16 := by rw [List.length_replicate]; omega
        have hrl2 : (List.replicate (m' / 2) 92).length ≤ 16 := by rw [List.length_replicate]; omega
        have hm3 : ¬ m' ≤ 1 := by omega
        have hbh : List.drop ((((List.takeWhile (fun x => x != 34) l0).length : Nat) : Int)).toNat l0 = bh l0 := by rw [Int.toNat_natCast]; rfl
        by_cases hb : bh l0 = [34]
        · have hc1 : (List.drop ((((List.takeWhile (fun x => x != 34) l0).length : Nat) : Int)).toNat l0 == [34]) = true := by rw [hbh, hb]; rfl
          k_steps
          rename Fr _ _ _ _ => lF'
          rename News _ _ _ _ => lN'
          refine JoinQ.intro (_, _) lF' (dm_same (rd := due l0 m') (mo := more l0 m') rfl rfl ?_ ?_ ?_) lN' (fun p hp => .tail _ hp) trivial (by omega)
          · intro y a b
            simp only [if_neg a, if_neg b]
          · rw [due_two l0 h2m, if_pos hb, List.append_assoc]
          · rw [more, if_neg hm3, if_pos hb]; exact hsub
        · have hc1 : (List.drop ((((List.takeWhile (fun x => x != 34) l0).length : Nat) : Int)).toNat l0 == [34]) = false := by rw [hbh]; simpa using hb
          by_cases hb0 : bh l0 = []
          · have hc2 : (List.drop ((((List.takeWhile (fun x => x != 34) l0).length : Nat) : Int)).toNat l0 != []) = false := by rw [hbh, hb0]; rfl
            k_steps
            rename Fr _ _ _ _ => lF'
            rename News _ _ _ _ => lN'
            refine JoinQ.intro (_, _) lF' (dm_same (rd := due l0 m') (mo := more l0 m') rfl rfl ?_ ?_ ?_) lN' (fun p hp => .tail _ hp) trivial (by omega)
            · intro y a b
              simp only [if_neg a, if_neg b]
            · rw [due_two l0 h2m, if_neg hb, if_pos hb0, List.append_nil]
            · rw [more, if_neg hm3, if_neg hb, if_pos hb0]; rfl
          · have hc2 : (List.drop ((((List.takeWhile (fun x => x != 34) l0).length : Nat) : Int)).toNat l0 != []) = true := by rw [hbh]; simpa using hb0
            k_steps
            rename Fr _ _ _ _ => lF'
            rename News _ _ _ _ => lN'
            exact JoinQ.intro (_, _) lF' (dm_same rfl rfl (fun y a b => by simp only [if_neg a, if_neg b]) (by rw [due_two l0 h2m, if_neg hb, if_neg hb0]) (by rw [more, if_neg hm3, if_neg hb, if_neg hb0]; exact hdiv)) lN' (fun p hp => .tail _ hp) trivial (by omega)
      · rename Fr _ _ _ _ => lF'
        rename News _ _ _ _ => lN'
        have hm3 : m' ≤ 1 := by omega
        exact JoinQ.intro (_, _) lF' (dm_same rfl rfl (fun y a b => rfl) (by rw [due, if_pos hm3]) (by rw [more, if_pos hm3]; rfl)) lN' (fun p hp => hp) trivial (by omega)
    · intro t1 t2 h3 tk3 htk3 F3 N3
      dsimp only [dmM] at F3
      k_with "replace size" => exact Nat.le_trans (repl_len (by decide) _) (by omega)
      have hwl : (repl 92 [32] (repl 120 [9] (due l0 m'))).length ≤ 1000 := Nat.le_trans (repl_len (by decide) _) (by have := repl_len (c := 120) (z := [9]) (by decide) (due l0 m'); omega)
      have hwa := trn_in hrs'
      have hzw : (List.takeWhile (fun x => x != 34) l0).length ≤ 1000 := by omega
      k_with "contract" => first
        | (refine' l_white ?zB ?zF ?zX ?zN ?zT ?zk ?zu ?zy ?zz ?zq ?_; (case zB => k_asm); (case zF => k_asm); (case zX => k_asm); (case zN => k_asm); (case zT => k_asm); (case zk => exact rfl); (case zu => decide); (case zy => exact rfl); (case zz => exact hwl); (case zq => exact hwa); intro x9 dx9 t29 tc9 vs9 cnt9 b9 nt9 raw9 n9 tn9 tnt9 tb9 sb9 k19 k29 k39 k49 k59 h9 tk9 hT9 hI9 F9 N9; (try k_sweep))
      k_steps
      refine STOP.out ?_
      rename IsRange _ _ _ _ _ _ _ _ => rgY
      rename Fr _ _ _ _ => lF'
      rename News _ _ _ _ => lN'
      dsimp only [dmM, rdM] at lF'
      with_unfolding_all
       refine' kst_range (σ := Unit) (n := 3) (fun _ => _) (fun _ => []) (fun _ => True) [] (fun _ _ => True) () ?yhh rgY ?yhs ?yhn lF' lN' True.intro ?ykk True.intro ?_ ?_
      case yhh => rfl
      case yhs => decide
      case yhn => decide
      case ykk => exact fun p hp => nomatch hp
      all_goals clear lF' lN'
      · rintro ⟨⟩ pre k9 t9 u9 h5 tk5 own hk9 hlt9 hoff9 _ _ F5 N5
        dsimp only at F5 N5 ⊢
        (try k_unmd); (try k_fold)
        have hsz1 : 1 ≤ 1 + pre.length := by omega
        have hkn : k9 = ((1 + pre.length : Nat) : Int) := by omega
        have hkm : k9 * (m' : Int) = (((1 + pre.length) * m' : Nat) : Int) := by rw [hkn]; push_cast; rfl
        have hb1 : (1 + pre.length) * m' ≤ 3 * 16 := Nat.mul_le_mul (by omega) hm16'
        have hb0 : 1 ≤ (1 + pre.length) * m' := Nat.mul_pos (by omega) (by omega)
        have hne := col_ne (sz := 1 + pre.length) hls hm' hsz1
        k_with "mine ne" => exact hne
        k_with "mul ok" => exact PySem.IntMulOk.of_left (PySem.intBits_le_64 (by omega) (by omega))
        k_with "contract" => first
          | (refine' l_ind ?zB ?zF ?zX ?zN ?zT ?zk ?z1 ?z2 ?z3 ?z4 ?z5 ?_; (case zB => k_asm); (case zF => k_asm); (case zX => k_asm); (case zN => k_asm); (case zT => k_asm); (case zk => exact rfl); (case z1 => exact hT9); (case z2 => exact hI9); (case z3 => exact hkm); (case z4 => exact hb0); (case z5 => omega); intro t8 h8 tk8 F8 N8; (try k_sweep))
          | (refine' l_walk ?zB ?zF ?zX ?zN ?zT ?zk ?zu ?z1 ?z2 ?z3 ?z4 ?_; (case zB => k_asm); (case zF => k_asm); (case zX => k_asm); (case zN => k_asm); (case zT => k_asm); (case zk => exact rfl); (case zu => decide); (case z1 => exact rfl); (case z2 => exact hzw); (case z3 => exact hkn); (case z4 => exact hsz1); intro t7 h7 tk7 F7 N7; (try k_sweep))
        k_steps
        rename Fr _ _ _ _ => lF'
        rename News _ _ _ _ => lN'
        exact kst_end () lF' lN' (fun p hp => List.mem_append_left _ hp) (fun p hp => .tail _ (.tail _ (.tail _ (.tail _ (List.mem_append_right _ hp))))) rfl True.intro (fun p hp => nomatch hp) (by walk_at "t_same4") True.intro
      · rintro ⟨⟩ u9 h5 tk5 _ _ F5 N5
        dsimp only at F5 N5 ⊢
        (try k_unmd); (try k_fold)
        k_steps
        rename Fr _ _ _ _ => lF'
        rename News _ _ _ _ => lN'
        exact kstw_end ⟨due l0 m', tr', m', es', ep', oc'⟩ lF' lN' (.tail _ (.tail _ (.tail _ (.tail _ (.head _))))) (fun p hp => .tail _ (.tail _ (.tail _ (.tail _ (.tail _ hp)))))
          (List.forall_mem_cons.mpr ⟨Nat.ne_of_lt hI, List.forall_mem_cons.mpr ⟨Nat.ne_of_lt (ltN (by omega)), List.forall_mem_cons.mpr ⟨Nat.ne_of_lt (ltN (by omega)), List.forall_mem_cons.mpr ⟨Nat.ne_of_lt (ltN (by omega)), fun p hp => by
            obtain ⟨e, he, rfl⟩ := List.mem_map.mp hp
            exact hne' e he⟩⟩⟩⟩)
          (by kst_all) (by walk_at "t_same4") ⟨rfl, hm', hes', ⟨tm', hoc'⟩, hex'⟩
  · rintro ⟨rd, tr, m, es, ep, oc⟩ u h tk F' N'
    dsimp only [ledL] at F' N' ⊢
    (try k_unmd); (try k_fold)
    k_steps)
end Mine
end
theorem PySem.Challenge.cw_tl0049_01_holds : PySem.Challenge.rw_tl0049_01.Holds :=
  Mine.lawT
