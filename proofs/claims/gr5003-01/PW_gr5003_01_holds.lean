import PyProof.Rows.All
import Wide.All
import OpenK.AllK
import Wide.FinOn
import PySem.Challenge.RW_gr5003_01
set_option Elab.async false

section
open PySem PySem.W PyProof.Rows
set_option Elab.async false
set_option maxRecDepth 100000
set_option maxHeartbeats 0
namespace Mine
open_top hd for PySem.Challenge.rw_gr5003_01
end Mine
end

section
open PySem PySem.W PySem.Calls PyProof.Rows
set_option Elab.async false
set_option maxRecDepth 100000
set_option maxHeartbeats 4000000
namespace Mine

noncomputable abbrev LOO : List Str := looseW hd.view_39 ["UnsupportedOperation", "IOBase", "BufferedIOBase", "TextIOBase", "BytesIO", "StringIO", "Lexer"]
abbrev Led := List (Addr × Obj)

def Kept (h : Heap) (mods : Led) (h' : Heap) : Prop := ∀ b o, h.get? b = some o → (∀ p ∈ mods, p.1 ≠ b) → h'.get? b = some o
def Fresh (h : Heap) (mods mods' : Led) : Prop := ∀ p ∈ mods', (∃ q ∈ mods, q.1 = p.1) ∨ h.get? p.1 = none

theorem wpAny_weaken {α : Type} {M : Model} {A A' : Around} {t : Sem α} {Q : α → Shared → Prop} {E : Value → Shared → Prop} {s : Shared} (h : wpAny M A t Q E s)
    (hh : A'.handled = A.handled) (hd : A'.depth ≤ A.depth) (hf : A'.frames = A.frames) (hg : A.guards = none) (hu : A'.units ≤ A.units) : wpAny M A' t Q E s :=
  fun Γ p hΓ => h Γ p ⟨hΓ.1.trans hh, Nat.le_trans hΓ.2.1 hd, (fun l hl => hΓ.2.2.1 l (hf.trans hl)), (fun g hg' => by rw [hg] at hg'; cases hg'), Nat.le_trans hΓ.2.2.2.2 hu⟩

def Tells (w : World) (f : Addr) (DP UN : Nat) (Pre : Heap → Prop) (mods : Led) (args : List Value) (Post : Value → Led → Prop) : Prop :=
  ∀ (mean : ExcName → Option Value) (mg mb : Str → Option Value) (dp un : Nat) (gd : Option (List Code)) (cn : Str) (cs : Scope) (a : Addr) (ccd : Value) (cl : List (Str × Addr)) (outer : List Env) (A₀ : Around) (base h₀ : Heap) (L : Addr) (m : Str → Option Value) (s : Shared) (Q E : Value → Shared → Prop),
    dp ≤ DP → un ≤ UN → Below A₀ base outer h₀ → Fr h₀ L s.heap m → (hd.heap_39 w.params).In h₀ → News h₀ L s.heap mods → Top hd.view_39 LOO mean mg mb h₀ → cs.kind = .function → Pre h₀ →
    (∀ v h' tk' mods', Fr h₀ L h' m → News h₀ L h' mods' → Kept s.heap mods h' → Fresh s.heap mods mods' → Post v mods' → Q v { s with heap := h', toks := tk' }) →
    wpAny (model PySem.Challenge.rw_gr5003_01.row.prog w) (ktrTop dp un gd cn cs L a ccd cl outer) (call (.ref f) args) Q E s

def EndB (g : Heap) (L : Addr) (s₀ : Shared) (Post : Value → Led → Prop) (v : Value) (s' : Shared) : Prop :=
  ∃ h' tk' m' mods', s' = { s₀ with heap := h', toks := tk' } ∧ Fr g L h' m' ∧ News g L h' mods' ∧ Post v mods'

theorem endB_of {g : Heap} {L : Addr} {s₀ : Shared} {Post : Value → Led → Prop} {v : Value} {h' : Heap} {tk' : Nat} {m' : Str → Option Value} {mods' : Led}
    (F : Fr g L h' m') (N : News g L h' mods') (p : Post v mods') : EndB g L s₀ Post v { s₀ with heap := h', toks := tk' } := ⟨h', tk', m', mods', rfl, F, N, p⟩

theorem tells_of_body {w : World} {f : Addr} {DP UN : Nat} {Pre : Heap → Prop} {mods : Led} {args : List Value} {Post : Value → Led → Prop}
    {name qual : Str} {params : Arguments} {body : List Stmt} {scope : Scope} {dV kV doc pm cdv ct oc : Value} {an od : Option Addr} {osl : Array (Option Value)} {binds : List (Str × Value)}
    (ho : (hd.heap_39 w.params).lookup f = some ⟨oc, od, .func (fnOf name qual params body scope dV kV doc pm an cdv ct), osl⟩)
    (hcd : codeIn (hd.heap_39 w.params) cdv qual = true) (hroom : DP < recursionLimit)
    (hmono : ∀ h h', h.StaysIn h' → Pre h → Pre h')
    (hbind : ∀ s : Shared, (hd.heap_39 w.params).In s.heap → BindsTo s (fnOf name qual params body scope dV kV doc pm an cdv ct) ⟨args, []⟩ binds)
    (hloc : ∀ y ∈ binds, scope.names.lookup y.1 = some .local)
    (hcell : ∀ x ∈ scope.names, x.2 ≠ .cell) (hco : scope.isCoroutine = false) (hgen : scope.isGenerator = false) (hk : scope.kind = .function)
    (hbody : ∀ (mean : ExcName → Option Value) (mg mb : Str → Option Value) (outer : List Env) (base g : Heap) (L' : Addr) (s : Shared) (A₀ : Around),
      Below A₀ base outer g → Fr g L' s.heap (fun y => binds.reverse.lookup y) → (hd.heap_39 w.params).In g → News g L' s.heap mods → Top hd.view_39 LOO mean mg mb g → Pre g → (∀ p ∈ mods, p.1 < L') →
      wpAny (model PySem.Challenge.rw_gr5003_01.row.prog w) (ktrTop (DP + 1) (UN + 3) none qual scope L' f cdv [] outer) (execs body (envX qual scope L' f cdv []))
        (fun fl s' => EndB g L' s Post (match fl with | .ret v => v | _ => .none) s') (fun _ _ => False) s) :
    Tells w f DP UN Pre mods args Post := by
  intro mean mg mb dp un gd cn cs a ccd cl outer A₀ base h₀ L m s Q E hdp hun B F X N T hck hpre ret
  refine wpAny_weaken (A := ktrTop DP UN none cn cs L a ccd cl outer) ?_ rfl hdp rfl rfl hun
  refine wpAny_call ?_
  have X' : (hd.heap_39 w.params).In s.heap := X.keeps F.keep
  obtain ⟨FG, BG, st, lv⟩ := groundX (R := fun r s' => match r with | .ok (.ret v) => Q v s' | .ok _ => False | .error e => E e s') (A := ktrTop DP UN none cn cs L a ccd cl outer) (env := envX cn cs L a ccd cl) B F N rfl rfl hck
  refine codeAny_call_def (fd := fnOf name qual params body scope dV kV doc pm an cdv ct) (body := body) (binds := binds) hroom (X' _ _ ho) rfl (T.nolimit.keeps F.keep) (codeRec_of X' hcd) rfl (hbind s X') hcell hloc (fun h₁ hns hk₁ => ?_) hco hgen hk
  have key := hbody mean mg mb (envX cn cs L a ccd cl :: outer) base _ s.heap.objs.size { s with heap := h₁, toks := s.toks + binds.length } _ BG
    ⟨hns, fun b o e => hk₁ b o (of_hideAll _ e), Nat.le_of_eq (hideAll_size _ _)⟩ (X.keeps st)
    (fun p hp => ⟨hk₁ _ _ (N p hp).1, Nat.ne_of_lt (Heap.lt_size (N p hp).1), hideAll_none _ (List.mem_map_of_mem hp)⟩) (T.keeps st) (hmono _ _ st hpre) (fun p hp => Heap.lt_size (N p hp).1)
  refine wpAny_mono key (fun fl s' hl => ?_) fun _ _ x => x.elim
  obtain ⟨h', tk', m', mods', rfl, F', N', hP⟩ := hl
  refine lv _ _ ⟨_, m', mods', F', N', fun FF NN => ?_⟩
  refine ret _ _ _ mods' FF NN (fun b o e hne => F'.keep b o (hideAll_get _ e fun q => ?_)) (fun p hp => ?_) hP
  · obtain ⟨p, hp, e'⟩ := List.mem_map.mp q
    exact hne p hp e'
  · by_cases hq : ∃ q ∈ mods, q.1 = p.1
    · exact .inl hq
    · right
      cases e : s.heap.get? p.1 with
      | none => rfl
      | some o =>
        have h1 := (N' p hp).2.2
        rw [hideAll_get _ e fun q => hq (by obtain ⟨p', hp', e'⟩ := List.mem_map.mp q; exact ⟨p', hp', e'⟩)] at h1
        cases h1

theorem tells_use {w : World} {f : Addr} {DP UN : Nat} {Pre : Heap → Prop} {mods news : Led} {args : List Value} {Post : Value → Led → Prop}
    {mean : ExcName → Option Value} {mg mb : Str → Option Value} {dp un : Nat} {gd : Option (List Code)} {cn : Str} {cs : Scope} {a : Addr} {ccd : Value} {cl : List (Str × Addr)} {outer : List Env} {A₀ : Around} {base h₀ : Heap} {L : Addr} {m : Str → Option Value} {s : Shared} {Q E : Value → Shared → Prop}
    (rest : Led) (C : Tells w f DP UN Pre mods args Post) (hdp : dp ≤ DP) (hun : un ≤ UN) (B : Below A₀ base outer h₀) (F : Fr h₀ L s.heap m) (X : (hd.heap_39 w.params).In h₀) (N : News h₀ L s.heap news)
    (T : Top hd.view_39 LOO mean mg mb h₀) (hck : cs.kind = .function) (hpre : Pre h₀) (hm : ∀ p ∈ mods, p ∈ news) (hr : ∀ p ∈ rest, p ∈ news) (hdis : ∀ p ∈ rest, ∀ q ∈ mods, q.1 ≠ p.1)
    (k : ∀ v h' tk' mods', Fr h₀ L h' m → News h₀ L h' (mods' ++ rest) → (∀ p ∈ mods', (∃ q ∈ mods, q.1 = p.1) ∨ ∀ r ∈ news, r.1 ≠ p.1) → Post v mods' → Q v { s with heap := h', toks := tk' }) :
    wpAny (model PySem.Challenge.rw_gr5003_01.row.prog w) (ktrTop dp un gd cn cs L a ccd cl outer) (call (.ref f) args) Q E s := by
  refine C mean mg mb dp un gd cn cs a ccd cl outer A₀ base h₀ L m s Q E hdp hun B F X (fun p hp => N p (hm p hp)) T hck hpre fun v h' tk' mods' F' N' hK hF hP => ?_
  refine k v h' tk' mods' F' (fun p hp => ?_) (fun p hp => ?_) hP
  · rcases List.mem_append.mp hp with hp | hp
    · exact N' p hp
    · have q := N p (hr p hp)
      exact ⟨hK _ _ q.1 (fun z hz => hdis p hp z hz), q.2⟩
  · rcases hF p hp with h | h
    · exact .inl h
    · refine .inr fun r hr' e => ?_
      have := (N r hr').1
      rw [e, h] at this
      cases this

end Mine
end

section
open PySem PySem.W PySem.Calls PyProof.Rows
set_option Elab.async false
namespace Mine

abbrev txt (l : List Nat) : Str := ⟨l.toArray⟩
theorem txt_of (x : Str) : txt x.cps.toList = x := Str.ext' (by simp)
theorem txt_len (l : List Nat) : (txt l).length = l.length := by simp [Str.length]
theorem len_cps (x : Str) : x.length = x.cps.toList.length := by simp [Str.length]

theorem slice_ab (x : Str) {a b : Int} (h0 : 0 ≤ a) (hab : a ≤ b) (hb : b ≤ x.length) : Txt.slice x (some a) (some b) = txt ((x.cps.toList.drop a.toNat).take (b - a).toNat) := by
  obtain ⟨i, rfl⟩ : ∃ i : Nat, a = i := ⟨a.toNat, by omega⟩
  obtain ⟨j, rfl⟩ : ∃ j : Nat, b = j := ⟨b.toNat, by omega⟩
  have e : ((j : Int) - (i : Int)).toNat = j - i := by omega
  rw [e]
  show StrLaws.sliceText x _ _ = _
  exact StrLaws.sliceText_nat x (by omega) (by omega)
theorem slice_m1 (l : List Nat) : Txt.slice (txt l ++ Str.ofString " ") none (some (-1)) = txt l := by
  have hs : Str.ofString " " = (⟨#[32]⟩ : Str) := by decide +kernel
  have hc : (txt l ++ Str.ofString " ").cps = (l ++ [32]).toArray := by rw [hs]; show (txt l).cps ++ #[32] = _; simp
  have hl : (txt l ++ Str.ofString " ").length = l.length + 1 := by unfold Str.length; rw [hc]; simp
  show StrLaws.sliceText _ _ _ = _
  rw [StrLaws.sliceText_to_neg (by decide) (by rw [hl]; omega), hc, hl]
  apply Str.ext'
  have e : (-1 + ((l.length + 1 : Nat) : Int) - 0).toNat = l.length := by omega
  rw [e]; simp
theorem app_txt (a b : List Nat) : txt a ++ txt b = txt (a ++ b) := Str.ext' (by show a.toArray ++ b.toArray = _; simp)

theorem empty_txt : Str.ofString "" = txt [] := by decide +kernel
theorem str_eq {x y : Str} (h : x = y) (t : Tok) : ∃ t', Value.str x t = Value.str y t' := ⟨t, by rw [h]⟩
theorem sread_a {x : Str} {p n : Int} (hp : 0 ≤ p) (h : (x.length : Int) ≤ p) : Str.ofString "" = txt ((x.cps.toList.drop p.toNat).take n.toNat) ∧ x.cps.toList.drop p.toNat = (x.cps.toList.drop p.toNat).drop n.toNat := by
  have e : x.cps.toList.drop p.toNat = [] := List.drop_eq_nil_of_le (by rw [len_cps] at h; omega)
  rw [e, empty_txt]; simp
theorem sread_b {x : Str} {p n : Int} (hp : 0 ≤ p) (hn : 0 ≤ n) (h : p + n < x.length) : Txt.slice (Txt.slice x (some p) (some (p + n)) ++ Str.ofString " ") none (some (-1)) = txt ((x.cps.toList.drop p.toNat).take n.toNat) ∧
    x.cps.toList.drop (p + n).toNat = (x.cps.toList.drop p.toNat).drop n.toNat := by
  rw [slice_ab x hp (by omega) (by omega), slice_m1]
  refine ⟨?_, ?_⟩
  · congr 2; omega
  · rw [List.drop_drop]; congr 1; omega
theorem sread_c {x : Str} {p n : Int} (hp : 0 ≤ p) (hn : 0 ≤ n) (h1 : ¬ (x.length : Int) ≤ p) (h : ¬ p + n < x.length) : Txt.slice (Txt.slice x (some p) (some (x.length : Int)) ++ Str.ofString " ") none (some (-1)) = txt ((x.cps.toList.drop p.toNat).take n.toNat) ∧
    x.cps.toList.drop ((x.length : Int)).toNat = (x.cps.toList.drop p.toNat).drop n.toNat := by
  rw [slice_ab x hp (by omega) (by omega), slice_m1]
  have hl := len_cps x
  refine ⟨?_, ?_⟩
  · congr 1
    rw [List.take_of_length_le (by rw [List.length_drop]; omega), List.take_of_length_le (by rw [List.length_drop]; omega)]
  · rw [List.drop_drop, List.drop_eq_nil_of_le (by omega), List.drop_eq_nil_of_le (by omega)]

inductive Chars : List Value → List Nat → Prop
  | nil : Chars [] []
  | cons (c : Nat) (t : Tok) {vs : List Value} {cs : List Nat} (h : Chars vs cs) : Chars (.str ⟨#[c]⟩ t :: vs) (c :: cs)
theorem Chars.length {vs : List Value} {cs : List Nat} (h : Chars vs cs) : vs.length = cs.length := by induction h with | nil => rfl | cons => simp_all
theorem Chars.append {vs us : List Value} {cs ds : List Nat} (h : Chars vs cs) (k : Chars us ds) : Chars (vs ++ us) (cs ++ ds) := by
  induction h with
  | nil => exact k
  | cons c t _ ih => exact .cons c t ih
theorem Chars.of_get : ∀ {cs : List Nat} {vs : List Value}, vs.length = cs.length → (∀ (j : Nat) (v : Value), vs[j]? = some v → ∃ (c : Nat) (t : Tok), cs[j]? = some c ∧ v = Value.str ⟨#[c]⟩ t) → Chars vs cs
  | [], [], _, _ => .nil
  | c :: cs, v :: vs, hl, h => by
    obtain ⟨c', t, h1, h2⟩ := h 0 v rfl
    simp at h1; subst h1; subst h2
    exact .cons _ _ (Chars.of_get (by simpa using hl) fun j u hu => h (j + 1) u (by simpa using hu))
theorem Chars.get {vs : List Value} {cs : List Nat} (h : Chars vs cs) : ∀ {j : Nat} {c : Nat}, cs[j]? = some c → ∃ t, vs[j]? = some (.str ⟨#[c]⟩ t) := by
  induction h with
  | nil => intro j c e; simp at e
  | cons c t _ ih =>
    intro j d e
    cases j with
    | zero => simp at e; subst e; exact ⟨t, rfl⟩
    | succ j => simpa using ih (by simpa using e)
end Mine
namespace Mine
theorem lread_plain {C R : List Nat} {n : Int} {k : Nat} (hk1 : (k : Int) ≤ n) (hk2 : k ≤ C.length) (hend : C.drop k = [] ∨ n - k = 0) :
    C.take k ++ R.take (n - k).toNat = (C ++ R).take n.toNat ∧ C.drop k = C.drop n.toNat ∧ (n - k).toNat = n.toNat - C.length := by
  have hk : C.length ≤ k ∨ n = k := by
    rcases hend with h | h
    · left; have := congrArg List.length h; simp at this; omega
    · right; omega
  obtain ⟨m, rfl⟩ : ∃ m : Nat, n = m := ⟨n.toNat, by omega⟩
  have hm : k ≤ m := by omega
  rw [List.take_append]
  simp only [Int.toNat_natCast]
  rcases hk with h | h
  · have e : k = C.length := by omega
    subst e
    have e2 : ((m : Int) - (C.length : Int)).toNat = m - C.length := by omega
    rw [e2, List.take_of_length_le hm, List.take_of_length_le (Nat.le_refl _), List.drop_eq_nil_of_le (Nat.le_refl _), List.drop_eq_nil_of_le hm]
    exact ⟨rfl, rfl, rfl⟩
  · have e : m = k := by omega
    subst e
    have e2 : ((m : Int) - (m : Int)).toNat = 0 := by omega
    have e3 : m - C.length = 0 := by omega
    rw [e2, e3]
    exact ⟨rfl, rfl, rfl⟩
end Mine
namespace Mine
theorem txt_beq_nil (l : List Nat) : (txt l == Str.ofString "") = l.isEmpty := by
  rw [empty_txt]
  cases l with
  | nil => rfl
  | cons a l =>
    rw [beq_eq_false_iff_ne.mpr]
    · rfl
    · intro h; have := congrArg Str.length h; rw [txt_len, txt_len] at this; simp at this
end Mine
namespace Mine
theorem lpeek_plain {C R : List Nat} {n : Int} {k : Nat} (hk1 : (k : Int) ≤ n) (hk2 : k ≤ C.length) (hend : C.length ≤ k ∨ n - k = 0) :
    C.take k ++ R.take (n - k).toNat = (C ++ R).take n.toNat ∧ (n - k).toNat = n.toNat - C.length ∧ (0 < n - k ↔ (C.length : Int) < n) := by
  have hend' : C.drop k = [] ∨ n - k = 0 := hend.imp (fun h => List.drop_eq_nil_of_le h) id
  obtain ⟨h1, _, h3⟩ := lread_plain (R := R) hk1 hk2 hend'
  refine ⟨h1, h3, ?_⟩
  rcases hend with h | h <;> omega
end Mine
namespace Mine
theorem lpeek_eof {C R Rd : List Nat} {n : Int} {k : Nat} (hq : 0 < n - k ↔ (C.length : Int) < n) (hRd : R.take (n - (k : Int)).toNat = Rd) :
    (decide ((C.length : Int) < n) && R.isEmpty) = (decide (0 < n - (k : Int)) && Rd.isEmpty) := by
  by_cases h : 0 < n - (k : Int)
  · rw [decide_eq_true h, decide_eq_true (hq.mp h), Bool.true_and, Bool.true_and, ← hRd]
    cases R with
    | nil => simp
    | cons a l =>
      obtain ⟨m, hm⟩ : ∃ m, (n - (k : Int)).toNat = m + 1 := ⟨(n - (k : Int)).toNat - 1, by omega⟩
      rw [hm]; rfl
  · rw [decide_eq_false h, decide_eq_false (fun q => h (hq.mpr q))]; rfl
end Mine
namespace Mine
def szOf (kind size : Int) : Nat := if 2 < kind then 1 else size.toNat
def dueV (kind size : Int) (R : List Nat) : Option (List Nat) := if kind = 2 then none else some (R.take (szOf kind size))
def dueR (kind size : Int) (b R : List Nat) : List Nat := if kind = 2 then b ++ R else if kind = 0 ∨ kind = 3 then R.drop (szOf kind size) else R
def dueH (kind size : Int) (b R : List Nat) (h : Nat) : Nat := if kind = 2 then h + b.length else if kind = 0 ∨ kind = 3 then h - szOf kind size else max h (min (szOf kind size) R.length)
def dueE (kind size : Int) (R : List Nat) (h : Nat) (e : Bool) : Bool :=
  if kind = 2 then e else if kind = 0 ∨ kind = 3 then e || (R.take (szOf kind size)).isEmpty else e || (decide (h < szOf kind size) && decide (R.length = h))
def VIs (v : Value) : Option (List Nat) → Prop
  | none => v = .none
  | some l => ∃ t, v = .str (txt l) t
end Mine
namespace Mine
theorem due_r1 (R : List Nat) (k : Nat) : R.drop ((R.take k).length : Int).toNat = R.drop k := by
  rw [List.length_take, Int.toNat_natCast]
  by_cases h : k ≤ R.length
  · rw [Nat.min_eq_left h]
  · rw [List.drop_eq_nil_of_le (by omega), List.drop_eq_nil_of_le (by omega)]
theorem due_h1 {h : Nat} {z : Int} (hz : 0 ≤ z) : (if (h : Int) - z > 0 then (h : Int) - z else 0) = ((h - z.toNat : Nat) : Int) := by split <;> omega
theorem due_h2 {h l : Nat} {z : Int} (hz : 0 ≤ z) : (if (if (l : Int) < z then (l : Int) else z) > h then if (l : Int) < z then (l : Int) else z else (h : Int)) = ((max h (min z.toNat l) : Nat) : Int) := by
  by_cases h1 : (l : Int) < z
  · simp only [if_pos h1]; split <;> omega
  · simp only [if_neg h1]; split <;> omega
theorem due_e1 {e : Bool} {b : Bool} (h : e = true) : e = (e || b) := by subst h; rfl
theorem due_e2 {e : Bool} {R : List Nat} {k : Nat} (h : e = false) : (txt (R.take k) == Str.ofString "") = (e || (R.take k).isEmpty) := by subst h; rw [txt_beq_nil]; rfl
theorem due_e3 {e : Bool} {l h : Nat} {z : Int} (he : e = false) (hz : 0 ≤ z) (hh : (h : Int) < z) : (((l : Nat) : Int) == (h : Int)) = (e || (decide (h < z.toNat) && decide (l = h))) := by
  subst he
  rw [decide_eq_true (show h < z.toNat by omega), Bool.false_or, Bool.true_and]
  by_cases q : l = h
  · subst q; simp
  · rw [decide_eq_false q, beq_eq_false_iff_ne.mpr (by omega)]
theorem due_e4 {e : Bool} {b : Bool} {h : Nat} {z : Int} (he : e = false) (hz : 0 ≤ z) (hh : ¬ (h : Int) < z) : decide ((h : Int) < z) = (e || (decide (h < z.toNat) && b)) := by
  subst he
  rw [decide_eq_false hh, decide_eq_false (show ¬ h < z.toNat by omega)]; rfl
end Mine
namespace Mine
theorem deed_read (C R : List Nat) (n : Nat) : C.drop n ++ R.drop (n - C.length) = (C ++ R).drop n ∧ (C.drop n).length = C.length - n := ⟨(List.drop_append ..).symm, by simp⟩
theorem deed_peek (C R : List Nat) (n : Nat) : (C ++ R.take (n - C.length)) ++ R.drop (n - C.length) = C ++ R ∧ (C ++ R.take (n - C.length)).length = max C.length (min n (C ++ R).length) := by
  refine ⟨by rw [List.append_assoc, List.take_append_drop], ?_⟩
  simp only [List.length_append, List.length_take]; omega
theorem deed_eof (C R : List Nat) (n : Int) (h0 : 0 ≤ n) (e : Bool) : (e || (decide ((C.length : Int) < n) && R.isEmpty)) = (e || (decide (C.length < n.toNat) && decide ((C ++ R).length = C.length))) := by
  have h1 : decide ((C.length : Int) < n) = decide (C.length < n.toNat) := by rw [decide_eq_decide]; omega
  have h2 : R.isEmpty = decide ((C ++ R).length = C.length) := by
    cases R with
    | nil => simp
    | cons a l => simp
  rw [h1, h2]
end Mine
namespace Mine
theorem Fresh.none {h : Heap} {mods : Led} (f : Fresh h [] mods) : ∀ p ∈ mods, h.get? p.1 = none := fun p hp => (f p hp).elim (fun ⟨_, hq, _⟩ => nomatch hq) id
/-- what was made by one call and changed by the next is still new to the first heap -/
theorem kept_made {h h1 h2 : Heap} {mods : Led} (k1 : Kept h [] h1) (f : Fresh h [] mods) (k2 : Kept h1 mods h2) : Kept h [] h2 := fun b o e _ =>
  k2 b o (k1 b o e fun _ hp => nomatch hp) fun p hp q => by have := f.none p hp; rw [q, e] at this; cases this
theorem fresh_made {h h1 : Heap} {mods mods' : Led} (k1 : Kept h [] h1) (f : Fresh h [] mods) (f2 : Fresh h1 mods mods') : Fresh h [] mods' := fun p hp => by
  right
  rcases f2 p hp with ⟨q, hq, e⟩ | e
  · rw [← e]; exact f.none q hq
  · cases q : h.get? p.1 with
    | none => rfl
    | some o => rw [k1 _ _ q fun _ hp => nomatch hp] at e; cases e
end Mine
end

section
open PySem PySem.W PySem.Calls PyProof.Rows
set_option Elab.async false
set_option maxRecDepth 100000
namespace Mine
section
variable {prog : Program} {w : World} {A : Around} {E : Value → Shared → Prop} {s : Shared} {h₀ : Heap} {L D : Addr} {m : Str → Option Value} {news news' : List (Addr × Obj)} {n : Nat}
theorem my_truthy {vs : List Value} {Q : Bool → Shared → Prop} (N : News h₀ L s.heap news) (hm : (D, listOf vs.toArray n) ∈ news) (hfit : vs.length ≤ 5000)
    (h : ∀ k, Q (!vs.isEmpty) { s with toks := k }) : wpAny (model prog w) A (truthy (.ref D)) Q E s :=
  kgr_truthy N hm rfl rfl (by omega) (h _)
theorem my_pop0 {v : Value} {vs : List Value} {u : Tok} {Q : Value → Shared → Prop} (F : Fr h₀ L s.heap m) (N : News h₀ L s.heap news) (U : Upd D (listOf (v :: vs).toArray n) (listOf vs.toArray (n + 1)) news news')
    (hz : vs.length ≤ 5000) (h : ∀ h', Fr h₀ L h' m → News h₀ L h' news' → Q v { s with heap := h' }) : wpAny (model prog w) A (call (.builtin "list.pop") [.ref D, .int 0 u]) Q E s :=
  kl_popAt (k := 0) (p := []) (q := vs) (y := v) F N (by decide) (StrLaws.seqIndex_nonneg (by decide) (by simp)) rfl U (by rw [sizeLine_eq]; simp; omega) h
theorem my_len {vs : List Value} {Q : Value → Shared → Prop} (N : News h₀ L s.heap news) (hm : (D, listOf vs.toArray n) ∈ news) (hfit : vs.length ≤ 5000)
    (h : ∀ t k, Q (.int (vs.length : Nat) t) { s with toks := k }) : wpAny (model prog w) A (call (.builtin "len") [.ref D]) Q E s :=
  KM.len_K N hm (by simp) (by omega) (h _ _)
end
end Mine
namespace Mine
section
variable {prog : Program} {w : World} {A : Around} {E : Value → Shared → Prop} {s : Shared}
theorem my_iadd_txt {a b : List Nat} {t u : Tok} {Q : Value → Shared → Prop} (hsz : a.length + b.length ≤ 5000) (h : ∀ t k, Q (.str (txt (a ++ b)) t) { s with toks := k }) :
    wpAny (model prog w) A (inplaceOp .Add (.str (txt a) t) (.str (txt b) u)) Q E s :=
  PyProof.Rows.iadd_str (by intro t k; rw [app_txt]; exact h t k) (by rw [txt_len, txt_len, sizeLine_eq]; omega)
theorem my_add_txt {a b : List Nat} {t u : Tok} {Q : Value → Shared → Prop} (hsz : a.length + b.length ≤ 5000) (h : ∀ t k, Q (.str (txt (a ++ b)) t) { s with toks := k }) :
    wpAny (model prog w) A (binaryOp .Add (.str (txt a) t) (.str (txt b) u)) Q E s :=
  PyProof.Rows.add_str (by intro t k; rw [app_txt]; exact h t k) (by rw [txt_len, txt_len, sizeLine_eq]; omega)
end
end Mine
namespace Mine
def CondB (s : Shared) (h₁ : Heap) (c : Bool) (b : Bool) (s₂ : Shared) : Prop := ∃ tk', s₂ = { s with heap := h₁, toks := tk' } ∧ b = c
theorem condB_of {s : Shared} {h₁ : Heap} {c b : Bool} {tk' : Nat} (e : b = c) : CondB s h₁ c b { s with heap := h₁, toks := tk' } := ⟨tk', rfl, e⟩
theorem ite_split {c : Bool} {a b : Prop} (h1 : c = true → a) (h2 : c = false → b) : if c = true then a else b := by cases c <;> simp_all
end Mine
namespace Mine
theorem map_turn {N S : Str} {a b a' b' : Option Value} {m₀ : Str → Option Value} : (fun y => if y = N then a else if y = S then b else if y = N then a' else if y = S then b' else m₀ y) = (fun y => if y = N then a else if y = S then b else m₀ y) := by
  funext y
  by_cases h1 : y = N
  · simp only [h1, if_true]
  · by_cases h2 : y = S
    · simp only [h1, h2, if_true, if_false]
    · simp only [h1, h2, if_false]
end Mine
namespace Mine
theorem map_turn3 {N I S : Str} {a b c a' b' c' : Option Value} {m₀ : Str → Option Value} : (fun y => if y = N then a else if y = I then b else if y = S then c else if y = N then a' else if y = I then b' else if y = S then c' else m₀ y) = (fun y => if y = N then a else if y = I then b else if y = S then c else m₀ y) := by
  funext y
  by_cases h1 : y = N
  · simp only [h1, if_true]
  · by_cases h2 : y = I
    · simp only [h1, h2, if_true, if_false]
    · by_cases h3 : y = S
      · simp only [h1, h2, h3, if_true, if_false]
      · simp only [h1, h2, h3, if_false]
end Mine
namespace Mine
theorem condB_tt {P R : Prop} [Decidable P] [Decidable R] (h1 : P) (h2 : R) : true = (decide P && decide R) := by simp [h1, h2]
theorem condB_f1 {P R : Prop} [Decidable P] [Decidable R] (h1 : ¬ P) : false = (decide P && decide R) := by simp [h1]
theorem condB_f2 {P R : Prop} [Decidable P] [Decidable R] (h1 : ¬ R) : false = (decide P && decide R) := by simp [h1]
end Mine
end

section
open PySem PySem.W PySem.Calls PyProof.Rows
set_option Elab.async false
set_option maxRecDepth 100000
namespace Mine
open Builtin in
section
variable {prog : Program} {w : World} {A : Around} {E : Value → Shared → Prop} {s : Shared}

theorem walks_shift {I : Addr} {fp wr : List Addr} {G : Array GenState → Array GenState → Prop} {n : Nat} {P : Nat → Value → Prop} {St : Nat → Shared → Prop} (W : WalksS prog w A I fp wr G n P St) (k : Nat) (P₀ : Nat → Value → Prop) :
    WalksS prog w A I fp wr G (k + n) (fun j v => (j < k ∧ P₀ j v) ∨ (k ≤ j ∧ P (j - k) v)) (fun i s => k ≤ i ∧ St (i - k) s) where
  sub := W.sub
  grefl := W.grefl
  gtrans := W.gtrans
  frame := fun i s h' tk st ht hk => ⟨st.1, W.frame _ s h' tk st.2 ht hk⟩
  item := fun i s Q E hi st hQ => W.item (i - k) s Q E (by omega) st.2 fun v s' hp hst hm => hQ v s' (.inr ⟨st.1, hp⟩) ⟨by omega, by rw [show i + 1 - k = (i - k) + 1 by omega]; exact hst⟩ hm
  done := fun s Q E st hQ => W.done s Q E (by have := st.2; rwa [show k + n - k = n by omega] at this) hQ
  self := fun i s Q E st hQ => W.self (i - k) s Q E st.2 hQ

theorem extend_str_any {R : Result → Shared → Prop} (hh : A.handled = none) (x : Str) (t : Tok) (S : Addr) (res : Value) (vs : List Value) (c₀ : Nat) (hS : s.heap.get? S = some { cls := .type "list", data := .seq vs.toArray c₀ })
    (hR : ∀ h' tk us c', (∀ b o, b ≠ S → s.heap.get? b = some o → h'.get? b = some o) → h'.get? S = some { cls := .type "list", dict := none, data := .seq (vs ++ us).toArray c', slots := #[] } →
      Chars us x.cps.toList → R (.ok (.ret res)) { s with heap := h', toks := tk }) (hn : vs.length + x.cps.size ≤ sizeLine) :
    wpAny (model prog w) A.in1 (Builtin.List.listExtendWith (.ref S) (.str x t) res)
      (fun fin s' => match fin with | .done f => R (.ok f) s' | .again c' => c'.quiet = true ∧ codeAny (model prog w) A c' R s') (fun e s' => R (.error e) s') s := by
  have hSI : S ≠ s.heap.objs.size := Nat.ne_of_lt (Heap.lt_size hS)
  have hSf : S ∉ [s.heap.objs.size] := fun hm => hSI (List.mem_singleton.mp hm)
  unfold Builtin.List.listExtendWith
  refine wpAny_bind (wpAny_typeOf (T := "str") (v := .str x t) rfl ?_)
  have h1 : Builtin.List.listSameRef (.ref S) (.str x t) = false := rfl
  have h2 : (Value.type "str" == Value.type "list") = false := by decide
  have h3 : (Value.type "str" == Value.type "tuple") = false := by decide
  simp only [h1, h2, h3, Bool.or_false, Bool.false_eq_true, if_false]
  refine wpAny_bind (wpAny_pyIter_str fun o St W hst => ?_)
  refine wpAny_bind (wpAny_holding ?_)
  unfold Builtin.List.listLengthHint
  refine wpAny_bind (wpAny_specialOf (T := "str") (v := .str x t) rfl F.str_len ?_)
  wp_delta
  refine wpAny_bind (wpAny_isInstance (T := "str") (v := .str x t) (b := true) rfl (by rw [isSubtype_type]; kernel_rfl) ?_)
  show wpAny _ _ (typeOf (Value.str x t) >>= _) _ _ _
  refine wpAny_bind (wpAny_typeOf (T := "str") (v := .str x t) rfl ?_)
  refine wpAny_pure ?_
  rw [if_neg (by decide)]
  have W' := walks_shift (W A.in1 hh).toS vs.length (fun j v => vs[j]? = some v)
  refine wpAny_pure ⟨plainId_quiet F.plain_extend_loop _, codeAny_extend_loopS W' hn _ hSf _ x.cps.size vs.length _ vs.toArray _ (by omega) (by omega) ⟨Nat.le_refl _, by rw [Nat.sub_self]; exact hst⟩ (Heap.get?_push_of_some _ hS)
    ⟨by simp, fun j v hj => .inl ⟨by have := Array.getElem?_eq_some_iff.mp hj; obtain ⟨hlt, _⟩ := this; simpa using hlt, by simpa using hj⟩⟩ fun s' acc' c' hm hS' hacc => ?_⟩
  rw [Moved.eq_with hm]
  obtain ⟨hsz, hget⟩ := hacc
  have hl : acc'.toList.length = vs.length + x.cps.size := by simpa using hsz
  have hv : acc'.toList.take vs.length = vs := by
    apply List.ext_getElem?
    intro j
    by_cases hj : j < vs.length
    · rw [List.getElem?_take_of_lt hj]
      have hj2 : j < acc'.size := by omega
      rcases hget j acc'[j] (by simp [hj2]) with h | h
      · rw [h.2]; simp [hj2]
      · omega
    · rw [List.getElem?_eq_none (by simp; omega), List.getElem?_eq_none (by omega)]
  have he : acc' = (vs ++ acc'.toList.drop vs.length).toArray := by
    apply Array.toList_inj.mp
    show acc'.toList = vs ++ acc'.toList.drop vs.length
    conv => lhs; rw [← List.take_append_drop vs.length acc'.toList, hv]
  refine hR s'.heap s'.toks (acc'.toList.drop vs.length) c' (fun b ob hb e => hm.heap b ob (fun hmem => ?_) (Heap.get?_push_of_some _ e)) (by rw [← he]; exact hS') ?_
  · rcases List.mem_cons.mp hmem with e' | hmem
    · exact hb e'
    · exact absurd (Heap.lt_size e) (by rw [List.mem_singleton.mp hmem]; exact Nat.lt_irrefl _)
  · refine Chars.of_get (by simp [hl]) fun j v hj => ?_
    rw [List.getElem?_drop] at hj
    rcases hget (vs.length + j) v (by simpa using hj) with h | h
    · omega
    · obtain ⟨c, u, h1, h2⟩ := h.2
      rw [show vs.length + j - vs.length = j by omega] at h1
      exact ⟨c, u, by simpa using h1, h2⟩

theorem my_extend {h₀ : Heap} {L D : Addr} {m : Str → Option Value} {news : Led} {n : Nat} {vs : List Value} {l : List Nat} {t : Tok} {Q : Value → Shared → Prop} (hh : A.handled = none) (F : Fr h₀ L s.heap m) (N : News h₀ L s.heap news) (hm : (D, listOf vs.toArray n) ∈ news)
    (hz : vs.length + l.length ≤ 5000)
    (h : ∀ h' us n' tk, Fr h₀ L h' m → Chars us l → (∀ news' , Upd D (listOf vs.toArray n) (listOf (vs ++ us).toArray n') news news' → News h₀ L h' news') → Q .none { s with heap := h', toks := tk }) :
    wpAny (model prog w) A (call (.builtin "list.extend") [.ref D, .str (txt l) t]) Q E s := by
  have z := N _ hm
  refine wpAny_call (codeAny_call_builtin PySem.F.slot_list_extend.plain PySem.F.entry_list_extend (PySem.F.slot_list_extend.check _ _ _ _ _ _ _ _ ⟨_, z.1, rfl⟩ (PySem.F.args_list_extend_2 _ _) ?_))
  show wpAny _ _ (Builtin.List.listExtendWith (.ref D) (.str (txt l) t) .none) _ _ _
  refine extend_str_any (R := wants Q E) hh (txt l) t D .none vs n z.1 (fun h' tk us c' hk hS' hc => ?_) (by rw [sizeLine_eq]; simp; omega)
  obtain ⟨oL, a1, a2, hL, a3⟩ := F.ns
  refine h h' us c' tk ⟨⟨oL, a1, a2, hk _ _ (Ne.symm z.2.1) hL, a3⟩, fun b o e => hk b o (fun q => ?_) (F.keep b o e), F.above⟩ (by simpa using hc) fun news' U => ?_
  · have := z.2.2; rw [← q, e] at this; cases this
  · obtain ⟨pre, post, rfl, rfl, h1, h2⟩ := U.split
    intro p hp
    rcases List.mem_append.mp hp with q | q
    · have P := N p (List.mem_append_left _ q); exact ⟨hk _ _ (h1 p q) P.1, P.2⟩
    · rcases List.mem_cons.mp q with rfl | q
      · exact ⟨hS', z.2⟩
      · have P := N p (List.mem_append_right _ (.tail _ q)); exact ⟨hk _ _ (h2 p q) P.1, P.2⟩
end
end Mine
end

section
open PySem PySem.W PySem.Calls PyProof.Rows
set_option Elab.async false
set_option maxRecDepth 100000
namespace Mine
section
variable {prog : Program} {w : World} {A : Around} {E : Value → Shared → Prop} {s : Shared} {h₀ : Heap} {L D : Addr} {m : Str → Option Value} {news : Led} {n : Nat}
theorem my_list_str {l : List Nat} {t : Tok} {Q : Value → Shared → Prop} (hh : A.handled = none) (F : Fr h₀ L s.heap m) (N : News h₀ L s.heap news) (hz : l.length ≤ 5000)
    (h : ∀ D h' us n' tk, Fr h₀ L h' m → Chars us l → News h₀ L h' ((D, listOf us.toArray n') :: news) → (∀ p ∈ news, p.1 < D) → Q (.ref D) { s with heap := h', toks := tk }) :
    wpAny (model prog w) A (call (.type "list") [.str (txt l) t]) Q E s := by
  refine call_list_str hh (txt l) t (fun h' tk acc' c' hk hS hacc => ?_) (by rw [sizeLine_eq]; simp; omega)
  obtain ⟨oL, a1, a2, hL, a3⟩ := F.ns
  refine h _ h' acc'.toList c' tk ⟨⟨oL, a1, a2, hk _ _ hL, a3⟩, fun b o e => hk _ _ (F.keep b o e), F.above⟩ ?_ ?_ fun p hp => Heap.lt_size (N p hp).1
  · refine Chars.of_get (by have := hacc.1; simpa using this) fun j v hj => ?_
    obtain ⟨c, u, h1, h2⟩ := hacc.2 j v (by simpa using hj)
    exact ⟨c, u, by simpa using h1, h2⟩
  · intro p hp
    rcases List.mem_cons.mp hp with rfl | hp
    · refine ⟨by simpa using hS, Nat.ne_of_gt (Heap.lt_size hL), ?_⟩
      cases q : h₀.get? s.heap.objs.size with
      | none => rfl
      | some o => exact absurd (Heap.lt_size (F.keep _ _ q)) (Nat.lt_irrefl _)
    · exact ⟨hk _ _ (N p hp).1, (N p hp).2⟩
theorem my_extend_list {b : Addr} {n2 : Nat} {vs us : List Value} {Q : Value → Shared → Prop} (F : Fr h₀ L s.heap m) (N : News h₀ L s.heap news) (hm : (D, listOf vs.toArray n) ∈ news) (hb : (b, listOf us.toArray n2) ∈ news)
    (hz : vs.length + us.length ≤ 5000)
    (h : ∀ h' n', Fr h₀ L h' m → (∀ news' , Upd D (listOf vs.toArray n) (listOf (vs ++ us).toArray n') news news' → News h₀ L h' news') → Q .none { s with heap := h' }) :
    wpAny (model prog w) A (call (.builtin "list.extend") [.ref D, .ref b]) Q E s := by
  have z := N _ hm
  have hl : sizeLine = 16777216 := sizeLine_eq
  have hlong : Builtin.List.listTooLong (vs.toArray.size + us.toArray.size) = false := by simp [Builtin.List.listTooLong, sizeLine]; omega
  refine call_meets PySem.F.slot_list_extend ⟨_, z.1, rfl⟩ PySem.F.entry_list_extend (PySem.F.args_list_extend_2 _ _) (PySem.AutoSeq1.list_extend_list_list_0 D vs.toArray n b us.toArray n2 (by rw [hlong]; simp) (by simp; omega) (by simp; omega)) ⟨z.1, (N _ hb).1, ?_⟩
  have e : vs.toArray ++ us.toArray = (vs ++ us).toArray := by simp
  by_cases hu : us = []
  · subst hu
    refine h _ n (F.change (Heap.SameBut.update ..) z.2.1 z.2.2) fun news' U => ?_
    obtain ⟨pre, post, rfl, rfl, a, c⟩ := U.split
    exact kl_turn0 _ N a c e (by simp)
  · have : us.length ≠ 0 := fun q => hu (List.length_eq_zero_iff.mp q)
    refine h _ (n + 1) (F.change (Heap.SameBut.update ..) z.2.1 z.2.2) fun news' U => ?_
    obtain ⟨pre, post, rfl, rfl, a, c⟩ := U.split
    exact kl_turn _ N a c e (by simp; omega)
theorem my_item {value slice : Expr} {vs : List Value} {k : Int} {u : Tok} {v : Value} {Q : Value → Shared → Prop} (N : News h₀ L s.heap news) (hm : (D, listOf vs.toArray n) ∈ news)
    (h0 : 0 ≤ k) (hk : k ≤ 5000) (hx : vs[k.toNat]? = some v) (h : Q v s)
    (hs : subscripted slice false (.ref D) (.int k u) = operate [.ref D, .int k u] (getItem (.ref D) (.int k u)) := by with_unfolding_all rfl) :
    wpAny (model prog w) A (subscriptTail value slice (.ref D) (.int k u)) Q E s := by
  have hl : s.heap.IsList D vs.toArray := News.isList N hm
  exact tail_any hl.typeIs slot_list_getitem.lookup (wpAny_getItem_list hl h0 (by omega) (by simpa using hx) h) hs
end
end Mine
namespace Mine
theorem slice_to_txt {l : List Nat} {j : Int} (h0 : 0 ≤ j) : Txt.slice (txt l) none (some j) = txt (l.take j.toNat) := by
  have hl := txt_len l
  by_cases h : (l.length : Int) ≤ j
  · rw [slice_to_beyond (by rw [hl]; exact h)]
    show StrLaws.sliceText _ _ _ = _
    rw [StrLaws.sliceText_to ⟨by omega, by rw [hl]; simp⟩, hl]
    simp only [List.drop_zero]
    rw [show (((l.length : Nat) : Int) - 0).toNat = l.length by omega, List.take_of_length_le (Nat.le_refl _), List.take_of_length_le (show l.length ≤ j.toNat by omega)]
  · show StrLaws.sliceText _ _ _ = _
    rw [StrLaws.sliceText_to ⟨h0, by simp; omega⟩]
    simp only [List.drop_zero]
    rw [show (j - 0).toNat = j.toNat by omega]
theorem slice_from_txt {l : List Nat} {i : Int} (h0 : 0 ≤ i) : Txt.slice (txt l) (some i) none = txt (l.drop i.toNat) := by
  have hl := txt_len l
  by_cases h : (l.length : Int) ≤ i
  · rw [slice_from_beyond (by rw [hl]; exact h), List.drop_eq_nil_of_le (by omega)]
  · show StrLaws.sliceText _ _ _ = _
    rw [StrLaws.sliceText_from ⟨h0, by simp; omega⟩]
    congr 2
    exact List.take_of_length_le (by simp; omega)
section
variable {prog : Program} {w : World} {A : Around} {E : Value → Shared → Prop} {s : Shared} {h₀ : Heap} {L : Addr} {m : Str → Option Value} {news : Led} {value slice : Expr} {l : List Nat} {t : Tok} {Q : Value → Shared → Prop}
theorem my_slice_to {j : Int} {uj : Tok} (hF : Fr h₀ L s.heap m) (hN : News h₀ L s.heap news) (hj : 0 ≤ j) (hl : l.length ≤ 5000) (h : ∀ h' t' k, Fr h₀ L h' m → News h₀ L h' news → Q (.str (txt (l.take j.toNat)) t') { s with heap := h', toks := k })
    (hs : subscripted slice false (.str (txt l) t) (.ref s.heap.objs.size) = operate [.ref s.heap.objs.size, .str (txt l) t] (getItem (.str (txt l) t) (.ref s.heap.objs.size)) := by with_unfolding_all rfl)
    (ht : ∀ r, letTemporaryGo value (.str (txt l) t) r = pure () := by intro _; with_unfolding_all rfl) :
    wpAny (model prog w) A (subscriptTail value slice (.str (txt l) t) (.ref s.heap.objs.size)) Q E { s with heap := s.heap.push { cls := .type "slice", data := .fields #[.none, .int j uj, .none] } } :=
  slice_strN_ns hF hN (fun h' t' k a b => by rw [slice_to_txt hj]; exact h h' t' k a b) hs ht (by rw [txt_len, sizeLine_eq]; omega)
theorem my_slice_from {i : Int} {ui : Tok} (hF : Fr h₀ L s.heap m) (hN : News h₀ L s.heap news) (hi : 0 ≤ i) (hl : l.length ≤ 5000) (h : ∀ h' t' k, Fr h₀ L h' m → News h₀ L h' news → Q (.str (txt (l.drop i.toNat)) t') { s with heap := h', toks := k })
    (hs : subscripted slice false (.str (txt l) t) (.ref s.heap.objs.size) = operate [.ref s.heap.objs.size, .str (txt l) t] (getItem (.str (txt l) t) (.ref s.heap.objs.size)) := by with_unfolding_all rfl)
    (ht : ∀ r, letTemporaryGo value (.str (txt l) t) r = pure () := by intro _; with_unfolding_all rfl) :
    wpAny (model prog w) A (subscriptTail value slice (.str (txt l) t) (.ref s.heap.objs.size)) Q E { s with heap := s.heap.push { cls := .type "slice", data := .fields #[.int i ui, .none, .none] } } :=
  slice_strN_sn hF hN (fun h' t' k a b => by rw [slice_from_txt hi]; exact h h' t' k a b) hs ht (by rw [txt_len, sizeLine_eq]; omega)
theorem my_len_txt (hl : l.length ≤ 5000) (h : ∀ t' k, Q (.int (l.length : Nat) t') { s with toks := k }) : wpAny (model prog w) A (call (.builtin "len") [.str (txt l) t]) Q E s :=
  SBL.len (by rw [txt_len]; omega) (by rw [txt_len]; exact h _ _)
end
end Mine
end

section
open PySem PySem.W PySem.Calls PyProof.Rows
set_option Elab.async false
set_option maxRecDepth 100000
set_option maxHeartbeats 4000000
namespace Mine

set_option rowWalk.seconds 0
theorem tells_index (w : World) (n : Int) (t tw : Tok) (what : Str) (h0 : 0 ≤ n) (h1 : n ≤ 1000) : Tells w 35 380 100 (fun _ => True) [] [.int n t, .str what tw] (fun v mods' => mods' = [] ∧ ∃ t', v = .int n t') := by
  have kf : (hd.heap_39 w.params).In = (hd.heap_39 w.params).In ∧ PySem.Challenge.rw_gr5003_01 = PySem.Challenge.rw_gr5003_01 := ⟨rfl, rfl⟩
  revert kf
  w_top off
  k_fill
  intro _
  refine' tells_of_body (binds := [(Str.ofString "n", .int n t), (Str.ofString "what", .str what tw)]) ?ho ?hcd (by decide) (fun _ _ _ h => h) ?hb ?hl ?hc ?h1 ?h2 ?h3 ?body
  case ho => k_dflt k_is
  case hcd => k_dflt k_is
  case hb => intro s X; first | exact BindsTo.of_eq rfl | exact binds_K X rfl (by k_dflt k_is) rfl rfl rfl
  case hl => exact locs rfl
  case hc => decide
  case h1 => rfl
  case h2 => rfl
  case h3 => rfl
  intro mean mg mb outer base g L' s A₀ B F X N T PR LT
  try dsimp only
  k_fold
  have LT2 := allLt_of LT
  simp only [AllLt, and_true] at LT2

  k_steps
  exact endB_of (by assumption) (by assumption) ⟨rfl, _, rfl⟩
theorem tells_check (w : World) (fx fd : Addr) (hne : @Ne Nat fx fd) (x1 x2 x3 : Int) (k1 k2 k3 k4 k5 k6 : Tok) (Bf : Str) (p : Int) : Tells w 353 380 80 (fun _ => True)
   [(fx, instObj 569 fd), (fd, dictOf [⟨x1, .str "_StringIO__newline" k1, .str "\n" k2⟩, ⟨x2, .str "_StringIO__buf" k3, .str Bf k4⟩, ⟨x3, .str "_StringIO__pos" k5, .int p k6⟩] 3)] [.ref fx]
   (fun v mods' => v = .none ∧ mods' = [(fx, instObj 569 fd), (fd, dictOf [⟨x1, .str "_StringIO__newline" k1, .str "\n" k2⟩, ⟨x2, .str "_StringIO__buf" k3, .str Bf k4⟩, ⟨x3, .str "_StringIO__pos" k5, .int p k6⟩] 3)]) := by
  have kf : (hd.heap_39 w.params).In = (hd.heap_39 w.params).In ∧ PySem.Challenge.rw_gr5003_01 = PySem.Challenge.rw_gr5003_01 := ⟨rfl, rfl⟩
  revert kf
  w_top off
  k_fill
  intro _
  refine' tells_of_body (binds := [(Str.ofString "self", .ref fx)]) ?ho ?hcd (by decide) (fun _ _ _ h => h) ?hb ?hl ?hc ?h1 ?h2 ?h3 ?body
  case ho => k_dflt k_is
  case hcd => k_dflt k_is
  case hb => intro s X; first | exact BindsTo.of_eq rfl | exact binds_K X rfl (by k_dflt k_is) rfl rfl rfl
  case hl => exact locs rfl
  case hc => decide
  case h1 => rfl
  case h2 => rfl
  case h3 => rfl
  intro mean mg mb outer base g L' s A₀ B F X N T PR LT
  try dsimp only
  k_fold
  have LT2 := allLt_of LT
  simp only [AllLt, and_true] at LT2

  k_steps
  exact endB_of (by assumption) (by assumption) ⟨rfl, rfl⟩

local macro_rules | `(tactic| walk_at "subscriptTail Attribute") => `(tactic| (k_here; (with_reducible show PySem.wpAny _ _ (subscriptTail (PySem.Expr.Attribute _ _ _) (PySem.Expr.Slice _ _ _ _) (PySem.Value.str _ _) (PySem.Value.ref _)) _ _ _); k_dflt (refine kba_turn (value' := PySem.Expr.Name (PySem.Str.ofString "_") ⟨0, 0, 0, 0⟩) (fun _ => rfl) ?_)))
local macro_rules | `(tactic| walk_at "subscriptTail BinOp") => `(tactic| (k_here; (with_reducible show PySem.wpAny _ _ (subscriptTail (PySem.Expr.BinOp _ _ _ _) (PySem.Expr.Slice _ _ _ _) (PySem.Value.str _ _) (PySem.Value.ref _)) _ _ _); k_dflt (refine kba_turn (value' := PySem.Expr.Name (PySem.Str.ofString "_") ⟨0, 0, 0, 0⟩) (fun _ => rfl) ?_)))

local macro_rules | `(tactic| walk_at "call ref") => `(tactic| ((with_reducible show PySem.wpAny _ _ (PySem.call (PySem.Value.ref 35) _) _ _ _); k_dflt (refine' tells_use _ (tells_index _ _ _ _ _ ?a1 ?a2) ?d1 ?d2 ?kB ?kF ?kX ?kN ?kT ?hk ?hp ?hm (fun _ h => h) (fun _ _ _ h => nomatch h) ?kk; (case d1 => decide); (case d2 => decide); (case kB => k_asm); (case kF => k_asm); (case kX => k_asm); (case kN => k_asm); (case kT => k_asm); (case hk => rfl); (case hp => exact True.intro); (case hm => exact (fun _ h => nomatch h)); (case a1 => omega); (case a2 => omega)); (intro v h' tk' mods' F' N' hf' hP'); (obtain ⟨hm', t', hv'⟩ := hP'); subst hm'; subst hv'; clear hf'; (dsimp only [List.nil_append] at N')))

theorem tells_sread (w : World) (fx fd : Addr) (hne : @Ne Nat fx fd) (x1 x2 x3 : Int) (k1 k2 k3 k4 k5 k6 t : Tok) (Bf : Str) (p n : Int) (hp : 0 ≤ p) (hB : (Bf.length : Int) ≤ 1000) (hn : 0 ≤ n) (hn2 : n ≤ 1000) : Tells w 515 360 50 (fun _ => True)
   [(fx, instObj 569 fd), (fd, dictOf [⟨x1, .str "_StringIO__newline" k1, .str "\n" k2⟩, ⟨x2, .str "_StringIO__buf" k3, .str Bf k4⟩, ⟨x3, .str "_StringIO__pos" k5, .int p k6⟩] 3)] [.ref fx, .int n t]
   (fun v mods' => ∃ t' p' k6', v = .str (txt ((Bf.cps.toList.drop p.toNat).take n.toNat)) t' ∧ p ≤ p' ∧ Bf.cps.toList.drop p'.toNat = (Bf.cps.toList.drop p.toNat).drop n.toNat ∧ mods' = [(fx, instObj 569 fd), (fd, dictOf [⟨x1, .str "_StringIO__newline" k1, .str "\n" k2⟩, ⟨x2, .str "_StringIO__buf" k3, .str Bf k4⟩, ⟨x3, .str "_StringIO__pos" k5, .int p' k6'⟩] 3)]) := by
  have kf : (hd.heap_39 w.params).In = (hd.heap_39 w.params).In ∧ PySem.Challenge.rw_gr5003_01 = PySem.Challenge.rw_gr5003_01 := ⟨rfl, rfl⟩
  revert kf
  w_top off
  k_fill
  intro _
  refine' tells_of_body (binds := [(Str.ofString "self", .ref fx), (Str.ofString "size", .int n t)]) ?ho ?hcd (by decide) (fun _ _ _ h => h) ?hb ?hl ?hc ?h1 ?h2 ?h3 ?body
  case ho => k_dflt k_is
  case hcd => k_dflt k_is
  case hb => intro s X; first | exact BindsTo.of_eq rfl | exact binds_K X rfl (by k_dflt k_is) rfl rfl rfl
  case hl => exact locs rfl
  case hc => decide
  case h1 => rfl
  case h2 => rfl
  case h3 => rfl
  intro mean mg mb outer base g L' s A₀ B F X N T PR LT
  try dsimp only
  k_fold
  have LT2 := allLt_of LT
  simp only [AllLt, and_true] at LT2

  k_steps
  · obtain ⟨e1, e2⟩ := sread_a (x := Bf) (p := p) (n := n) hp (by assumption)
    exact endB_of (by assumption) (by assumption) ⟨_, p, k6, congrArg (Value.str · _) e1, Int.le_refl _, e2, rfl⟩
  · obtain ⟨e1, e2⟩ := sread_b (x := Bf) (p := p) (n := n) hp hn (by assumption)
    exact endB_of (by assumption) (by assumption) ⟨_, _, _, congrArg (Value.str · _) e1, by omega, e2, rfl⟩
  · obtain ⟨e1, e2⟩ := sread_c (x := Bf) (p := p) (n := n) hp hn (by assumption) (by assumption)
    exact endB_of (by assumption) (by assumption) ⟨_, _, _, congrArg (Value.str · _) e1, by omega, e2, rfl⟩
end Mine
end

section
open PySem PySem.W PySem.Calls PyProof.Rows
set_option Elab.async false
set_option maxRecDepth 100000
set_option maxHeartbeats 4000000
namespace Mine

set_option rowWalk.seconds 0

local macro_rules | `(tactic| walk_at "m_go") => `(tactic| repeat' (
  (fail_if_success (with_reducible show PySem.wpAny _ _ (PySem.call (PySem.Value.ref _) _) _ _ _))
  (fail_if_success (with_reducible show PySem.wpAny _ _ (PySem.exec (PySem.Stmt.While _ _ _ _) _) _ _ _))
  (fail_if_success (with_reducible show Mine.EndB _ _ _ _ _ _))
  (first | (k_unfold; (try dsimp only)) | walk1 | (dsimp only; walk1) | fail "no step")))

local macro_rules | `(tactic| walk_at "truthy ref") => `(tactic| (k_here; (with_reducible show PySem.wpAny _ _ (PySem.truthy (PySem.Value.ref _)) _ _ _); k_dflt (refine' my_truthy ?N ?m ?z ?_; (case N => k_asm); (case m => k_mem); (case z => first | omega | (simp only [List.length_cons]; omega)); k_whole); (intro _); (try simp only [List.isEmpty_cons, List.isEmpty_nil, Bool.not_false, Bool.not_true])))
local macro_rules | `(tactic| walk_at "call builtin:list.pop") => `(tactic| (k_here; (with_reducible show PySem.wpAny _ _ (PySem.call (PySem.Value.builtin _) [PySem.Value.ref _, PySem.Value.int _ _]) _ _ _); k_dflt (refine' my_pop0 ?F ?N ?U ?z ?_; (case F => k_asm); (case N => k_asm); (case U => k_upd); (case z => omega)); kl_rest))
local macro_rules | `(tactic| walk_at "call builtin:len") => `(tactic| (k_here; (with_reducible show PySem.wpAny _ _ (PySem.call (PySem.Value.builtin "len") [PySem.Value.ref _]) _ _ _); k_dflt (refine' my_len ?N ?m ?z ?_; (case N => k_asm); (case m => k_mem); (case z => first | omega | (simp only [List.length_cons]; omega)); k_whole); (intro _ _)))

local macro_rules | `(tactic| walk_at "inplaceOp Add str str") => `(tactic| (k_here; (with_reducible show PySem.wpAny _ _ (PySem.inplaceOp PySem.Operator.Add (PySem.Value.str _ _) (PySem.Value.str _ _)) _ _ _); k_dflt (refine' my_iadd_txt ?z ?_; (case z => first | omega | (simp only [List.length_cons, List.length_append, List.length_take, List.length_drop, List.length_nil]; omega)); k_whole); (intro _ _)))
local macro_rules | `(tactic| walk_at "binaryOp Add str str") => `(tactic| (k_here; (with_reducible show PySem.wpAny _ _ (PySem.binaryOp PySem.Operator.Add (PySem.Value.str _ _) (PySem.Value.str _ _)) _ _ _); k_dflt (refine' my_add_txt ?z ?_; (case z => first | omega | (simp only [List.length_cons, List.length_append, List.length_take, List.length_drop, List.length_nil]; omega)); k_whole); (intro _ _)))
local macro_rules | `(tactic| walk_at "subscriptTail Attribute") => `(tactic| (k_here; (with_reducible show PySem.wpAny _ _ (subscriptTail _ _ (PySem.Value.ref _) (PySem.Value.int _ _)) _ _ _); k_dflt (refine' my_item ?N ?m ?a ?b ?c ?_; (case N => k_asm); (case m => k_mem); (case a => omega); (case b => omega); (case c => k_asm))))

local macro_rules | `(tactic| walk_at "call builtin:list.extend") => `(tactic| (k_here; (with_reducible show PySem.wpAny _ _ (PySem.call (PySem.Value.builtin _) [PySem.Value.ref _, PySem.Value.str _ _]) _ _ _); k_dflt (refine' my_extend ?hh ?F ?N ?m ?z ?_; (case hh => exact rfl); (case F => k_asm); (case N => k_asm); (case m => k_mem); (case z => omega)); (intro h' us n' tk F' hus hN); (have N' := hN _ (by k_upd)); clear hN; (try k_sweep)))

theorem tells_lread (w : World) (x dx qa fx fd sm : Addr) (h_x_dx : @Ne Nat x dx) (h_x_qa : @Ne Nat x qa) (h_x_fx : @Ne Nat x fx) (h_x_fd : @Ne Nat x fd) (h_dx_qa : @Ne Nat dx qa) (h_dx_fx : @Ne Nat dx fx) (h_dx_fd : @Ne Nat dx fd) (h_qa_fx : @Ne Nat qa fx) (h_qa_fd : @Ne Nat qa fd) (h_fx_fd : @Ne Nat fx fd) (y1 y2 y3 y4 y5 y6 x1 x2 x3 : Int) (j1 j2 j3 j4 j5 j6 k1 k2 k3 k4 k5 k6 t : Tok) (nq : Nat) (e : Bool) (vs : List Value) (C : List Nat) (hC : Chars vs C) (hCl : C.length ≤ 1000) (Bf : Str) (p : Int) (hp : 0 ≤ p) (hB : (Bf.length : Int) ≤ 1000) (n : Int) (hn : 0 ≤ n) (hn2 : n ≤ 1000) (args : List Value) (hargs : args = [.ref x, .int n t] ∨ (args = [.ref x] ∧ n = 1 ∧ t = 909)) : Tells w 616 340 40 (fun _ => True)
   [(x, instObj 648 dx), (dx, dictOf [⟨y1, .str (Str.ofString "f") j1, .ref fx⟩, ⟨y2, .str (Str.ofString "debug") j2, .bool false⟩, ⟨y3, .str (Str.ofString "q") j3, .ref qa⟩, ⟨y4, .str (Str.ofString "state") j4, .ref sm⟩, ⟨y5, .str (Str.ofString "escaped") j5, .bool false⟩, ⟨y6, .str (Str.ofString "eof") j6, .bool e⟩] 6), (qa, listOf (List.toArray vs) nq), (fx, instObj 569 fd), (fd, dictOf [⟨x1, .str (Str.ofString "_StringIO__newline") k1, .str (Str.ofString "\n") k2⟩, ⟨x2, .str (Str.ofString "_StringIO__buf") k3, .str Bf k4⟩, ⟨x3, .str (Str.ofString "_StringIO__pos") k5, .int p k6⟩] 3)] args
   (fun v mods' => ∃ t' p' k6' vs' nq' C' e', v = .str (txt ((C ++ Bf.cps.toList.drop p.toNat).take n.toNat)) t' ∧ p ≤ p' ∧ Chars vs' C' ∧ C' = C.drop n.toNat ∧ Bf.cps.toList.drop p'.toNat = (Bf.cps.toList.drop p.toNat).drop (n.toNat - C.length) ∧ e' = (e || ((C ++ Bf.cps.toList.drop p.toNat).take n.toNat).isEmpty) ∧ mods' = [(x, instObj 648 dx), (dx, dictOf [⟨y1, .str (Str.ofString "f") j1, .ref fx⟩, ⟨y2, .str (Str.ofString "debug") j2, .bool false⟩, ⟨y3, .str (Str.ofString "q") j3, .ref qa⟩, ⟨y4, .str (Str.ofString "state") j4, .ref sm⟩, ⟨y5, .str (Str.ofString "escaped") j5, .bool false⟩, ⟨y6, .str (Str.ofString "eof") j6, .bool e'⟩] 6), (qa, listOf (List.toArray vs') nq'), (fx, instObj 569 fd), (fd, dictOf [⟨x1, .str (Str.ofString "_StringIO__newline") k1, .str (Str.ofString "\n") k2⟩, ⟨x2, .str (Str.ofString "_StringIO__buf") k3, .str Bf k4⟩, ⟨x3, .str (Str.ofString "_StringIO__pos") k5, .int p' k6'⟩] 3)]) := by
  have kf : (hd.heap_39 w.params).In = (hd.heap_39 w.params).In ∧ PySem.Challenge.rw_gr5003_01 = PySem.Challenge.rw_gr5003_01 := ⟨rfl, rfl⟩
  revert kf
  w_top off
  k_fill
  intro _
  refine' tells_of_body (binds := [(Str.ofString "self", .ref x), (Str.ofString "n", .int n t)]) ?ho ?hcd (by decide) (fun _ _ _ h => h) ?hb ?hl ?hc ?h1 ?h2 ?h3 ?body
  case ho => k_dflt k_is
  case hcd => k_dflt k_is
  case hb =>
    intro s X
    rcases hargs with rfl | ⟨rfl, rfl, rfl⟩
    · exact binds_K X rfl (by k_dflt k_is) rfl rfl rfl
    · exact binds_K X rfl (by k_dflt k_is) rfl rfl rfl
  case hl => exact locs rfl
  case hc => decide
  case h1 => rfl
  case h2 => rfl
  case h3 => rfl
  intro mean mg mb outer base g L' s A₀ B F X N T PR LT
  try dsimp only
  k_fold
  have LT2 := allLt_of LT
  simp only [AllLt, and_true] at LT2

  have hvl := hC.length
  refine wpAny_execs_cons ?_
  iterate 4 walk1
  refine wpAny_mono (Q := fun f s' => f = .next ∧ ∃ (h₁ : Heap) (tk₁ k : Nat) (ts tn : Tok) (vs' : List Value) (nq' : Nat), s' = { s with heap := h₁, toks := tk₁ } ∧ (k : Int) ≤ n ∧ k ≤ C.length ∧ Chars vs' (C.drop k) ∧ (C.drop k = [] ∨ n - k = 0) ∧
     Fr g L' h₁ (fun y => if y = Str.ofString "n" then some (.int (n - k) tn) else if y = Str.ofString "s" then some (.str (txt (C.take k)) ts) else List.lookup y [(Str.ofString "self", Value.ref x), (Str.ofString "n", .int n t)].reverse) ∧ News g L' h₁ [(x, instObj 648 dx), (dx, dictOf [⟨y1, .str (Str.ofString "f") j1, .ref fx⟩, ⟨y2, .str (Str.ofString "debug") j2, .bool false⟩, ⟨y3, .str (Str.ofString "q") j3, .ref qa⟩, ⟨y4, .str (Str.ofString "state") j4, .ref sm⟩, ⟨y5, .str (Str.ofString "escaped") j5, .bool false⟩, ⟨y6, .str (Str.ofString "eof") j6, .bool e⟩] 6), (qa, listOf (List.toArray vs') nq'), (fx, instObj 569 fd), (fd, dictOf [⟨x1, .str (Str.ofString "_StringIO__newline") k1, .str (Str.ofString "\n") k2⟩, ⟨x2, .str (Str.ofString "_StringIO__buf") k3, .str Bf k4⟩, ⟨x3, .str (Str.ofString "_StringIO__pos") k5, .int p k6⟩] 3)]) (E := fun _ _ => False) ?_ ?_ (fun _ _ h => h)
  · refine While_inv (n₀ := n.toNat) (fun μ m₁ news₁ => ∃ (k : Nat) (ts tn : Tok) (vs' : List Value) (nq' : Nat), (k : Int) ≤ n ∧ k ≤ C.length ∧ Chars vs' (C.drop k) ∧ μ = (n - k).toNat ∧
      m₁ = (fun y => if y = Str.ofString "n" then some (.int (n - k) tn) else if y = Str.ofString "s" then some (.str (txt (C.take k)) ts) else List.lookup y [(Str.ofString "self", Value.ref x), (Str.ofString "n", .int n t)].reverse) ∧ news₁ = [(x, instObj 648 dx), (dx, dictOf [⟨y1, .str (Str.ofString "f") j1, .ref fx⟩, ⟨y2, .str (Str.ofString "debug") j2, .bool false⟩, ⟨y3, .str (Str.ofString "q") j3, .ref qa⟩, ⟨y4, .str (Str.ofString "state") j4, .ref sm⟩, ⟨y5, .str (Str.ofString "escaped") j5, .bool false⟩, ⟨y6, .str (Str.ofString "eof") j6, .bool e⟩] 6), (qa, listOf (List.toArray vs') nq'), (fx, instObj 569 fd), (fd, dictOf [⟨x1, .str (Str.ofString "_StringIO__newline") k1, .str (Str.ofString "\n") k2⟩, ⟨x2, .str (Str.ofString "_StringIO__buf") k3, .str Bf k4⟩, ⟨x3, .str (Str.ofString "_StringIO__pos") k5, .int p k6⟩] 3)]) (by assumption) (by assumption) ⟨0, s.toks, t, vs, nq, by omega, by omega, hC, by simp, ?_, rfl⟩ ?_ (by passes_own)
    · have e0 : n - ((0 : Nat) : Int) = n := by omega
      rw [e0]
      funext y
      by_cases h1 : y = Str.ofString "n"
      · subst h1; simp only [if_true, if_neg (show ¬ Str.ofString "n" = Str.ofString "s" by decide)]; rfl
      · simp only [h1, if_false, empty_txt, List.take_zero]
    rintro μ m₁ news₁ h₁ tk₁ F₁ N₁ ⟨k, ts, tn, vs', nq', hk1, hk2, hC', rfl, rfl, rfl⟩
    have hvl' := hC'.length
    rw [List.length_drop] at hvl'
    generalize hD : C.drop k = D at hC'
    refine wpAny_mono (Q := CondB s h₁ (!vs'.isEmpty && decide (0 < n - k))) (E := fun _ _ => False) ?_ ?_ (fun _ _ h => h)
    · walk_at "m_go"
      all_goals (refine condB_of ?_; simp_all)
    rintro b s₂ ⟨tk', rfl, rfl⟩
    refine ite_split (fun hb => ?_) (fun hb => ?_)
    · obtain ⟨hb1, hb2⟩ := Bool.and_eq_true_iff.mp hb
      have hb2 := of_decide_eq_true hb2
      cases hC' with
      | nil => simp at hb1
      | cons c tc hC'' =>
        rename_i us cs
        rw [List.length_cons] at hvl'
        have hD1 : C.drop (k + 1) = cs := by rw [← List.drop_drop, hD]; rfl
        have hT1 : C.take (k + 1) = C.take k ++ [c] := by
          have hg : C[k]? = some c := by
            have := congrArg List.head? hD
            rwa [List.head?_drop] at this
          rw [List.take_add_one, hg]; rfl
        show wpAny _ _ _ _ _ _
        try k_fold
        walk_at "m_go"
        have e1 : n - (k : Int) - 1 = n - ((k + 1 : Nat) : Int) := by omega
        refine' WhileStep.intro (by assumption) (by assumption) ?hlt ⟨k + 1, ?ts, ?tn, _, _, by omega, by omega, by rw [hD1]; exact hC'', rfl, ?mm, rfl⟩
        case mm => rw [hT1, ← e1]; exact map_turn
        case hlt => omega
    · refine ⟨rfl, _, _, k, ts, tn, vs', nq', rfl, hk1, hk2, by rw [hD]; exact hC', ?_, F₁, N₁⟩
      rcases Bool.and_eq_false_iff.mp hb with h | h
      · left; cases hC' with
        | nil => exact hD
        | cons => simp at h
      · right; have := of_decide_eq_false h; omega
  · rintro f s' ⟨rfl, h₁, tk₁, k, ts, tn, vs', nq', rfl, hk1, hk2, hC', hend, F₁, N₁⟩
    have hk3 : (C.take k).length = k := by rw [List.length_take]; omega
    dsimp only
    show wpAny _ _ _ _ _ _
    try k_fold
    walk_at "m_go"
    refine' tells_use [(x, instObj 648 dx), (dx, dictOf [⟨y1, .str (Str.ofString "f") j1, .ref fx⟩, ⟨y2, .str (Str.ofString "debug") j2, .bool false⟩, ⟨y3, .str (Str.ofString "q") j3, .ref qa⟩, ⟨y4, .str (Str.ofString "state") j4, .ref sm⟩, ⟨y5, .str (Str.ofString "escaped") j5, .bool false⟩, ⟨y6, .str (Str.ofString "eof") j6, .bool e⟩] 6), (qa, listOf (List.toArray vs') nq')] (tells_sread w fx fd h_fx_fd x1 x2 x3 k1 k2 k3 k4 k5 k6 _ Bf p (n - k) hp hB ?e1 ?e2) ?d1 ?d2 ?kB ?kF ?kX ?kN ?kT ?hk ?hp ?hm ?hr ?hd ?kk
    case e1 => omega
    case e2 => omega
    case d1 => decide
    case d2 => decide
    case kB => k_asm
    case kF => k_asm
    case kX => k_asm
    case kN => k_asm
    case kT => k_asm
    case hk => rfl
    case hp => exact True.intro
    case hm => repeat' (first | exact List.forall_mem_nil _ | (refine' List.forall_mem_cons.mpr ⟨?_, ?_⟩) | k_mem | k_ne)
    case hr => repeat' (first | exact List.forall_mem_nil _ | (refine' List.forall_mem_cons.mpr ⟨?_, ?_⟩) | k_mem | k_ne)
    case hd => repeat' (first | exact List.forall_mem_nil _ | (refine' List.forall_mem_cons.mpr ⟨?_, ?_⟩) | k_mem | k_ne)
    intro v h' tk' mods' F' N' hf hP
    obtain ⟨t', p', k6', rfl, hpp, hdr, rfl⟩ := hP
    clear hf
    have N2 : News g L' h' [(x, instObj 648 dx), (dx, dictOf [⟨y1, .str (Str.ofString "f") j1, .ref fx⟩, ⟨y2, .str (Str.ofString "debug") j2, .bool false⟩, ⟨y3, .str (Str.ofString "q") j3, .ref qa⟩, ⟨y4, .str (Str.ofString "state") j4, .ref sm⟩, ⟨y5, .str (Str.ofString "escaped") j5, .bool false⟩, ⟨y6, .str (Str.ofString "eof") j6, .bool e⟩] 6), (qa, listOf (List.toArray vs') nq'), (fx, instObj 569 fd), (fd, dictOf [⟨x1, .str (Str.ofString "_StringIO__newline") k1, .str (Str.ofString "\n") k2⟩, ⟨x2, .str (Str.ofString "_StringIO__buf") k3, .str Bf k4⟩, ⟨x3, .str (Str.ofString "_StringIO__pos") k5, .int p' k6'⟩] 3)] := by
      repeat' (first | exact List.forall_mem_nil _ | (refine' List.forall_mem_cons.mpr ⟨N' _ (by k_mem), ?_⟩))
    clear N' N₁ F₁
    have hk4 : (List.take (n - (k : Int)).toNat (Bf.cps.toList.drop p.toNat)).length ≤ 1000 := by rw [List.length_take]; omega
    show wpAny _ _ _ _ _ _
    walk_at "m_go"
    all_goals (obtain ⟨q1, q2, q3⟩ := lread_plain (C := C) (R := Bf.cps.toList.drop p.toNat) hk1 hk2 hend)
    · rename (txt _ == Str.ofString "") = true => hz
      rw [txt_beq_nil, q1] at hz
      exact endB_of (by assumption) (by assumption) ⟨_, p', k6', vs', _, C.drop k, true, congrArg (fun l => Value.str (txt l) _) q1, hpp, hC', q2, by rw [hdr, q3], by rw [hz]; simp, rfl⟩
    · rename (txt _ == Str.ofString "") = false => hz
      rw [txt_beq_nil, q1] at hz
      exact endB_of (by assumption) (by assumption) ⟨_, p', k6', vs', _, C.drop k, e, congrArg (fun l => Value.str (txt l) _) q1, hpp, hC', q2, by rw [hdr, q3], by rw [hz]; simp, rfl⟩
end Mine
end

section
open PySem PySem.W PySem.Calls PyProof.Rows
set_option Elab.async false
set_option maxRecDepth 100000
set_option maxHeartbeats 4000000
namespace Mine

set_option rowWalk.seconds 0

local macro_rules | `(tactic| walk_at "m_go") => `(tactic| repeat' (
  (fail_if_success (with_reducible show PySem.wpAny _ _ (PySem.call (PySem.Value.ref _) _) _ _ _))
  (fail_if_success (with_reducible show PySem.wpAny _ _ (PySem.exec (PySem.Stmt.While _ _ _ _) _) _ _ _))
  (fail_if_success (with_reducible show Mine.EndB _ _ _ _ _ _))
  (first | (k_unfold; (try dsimp only)) | walk1 | (dsimp only; walk1) | fail "no step")))

local macro_rules | `(tactic| walk_at "truthy ref") => `(tactic| (k_here; (with_reducible show PySem.wpAny _ _ (PySem.truthy (PySem.Value.ref _)) _ _ _); k_dflt (refine' my_truthy ?N ?m ?z ?_; (case N => k_asm); (case m => k_mem); (case z => first | omega | (simp only [List.length_cons]; omega)); k_whole); (intro _); (try simp only [List.isEmpty_cons, List.isEmpty_nil, Bool.not_false, Bool.not_true])))
local macro_rules | `(tactic| walk_at "call builtin:list.pop") => `(tactic| (k_here; (with_reducible show PySem.wpAny _ _ (PySem.call (PySem.Value.builtin _) [PySem.Value.ref _, PySem.Value.int _ _]) _ _ _); k_dflt (refine' my_pop0 ?F ?N ?U ?z ?_; (case F => k_asm); (case N => k_asm); (case U => k_upd); (case z => omega)); kl_rest))
local macro_rules | `(tactic| walk_at "call builtin:len") => `(tactic| (k_here; (with_reducible show PySem.wpAny _ _ (PySem.call (PySem.Value.builtin "len") [PySem.Value.ref _]) _ _ _); k_dflt (refine' my_len ?N ?m ?z ?_; (case N => k_asm); (case m => k_mem); (case z => first | omega | (simp only [List.length_cons]; omega)); k_whole); (intro _ _)))

local macro_rules | `(tactic| walk_at "inplaceOp Add str str") => `(tactic| (k_here; (with_reducible show PySem.wpAny _ _ (PySem.inplaceOp PySem.Operator.Add (PySem.Value.str _ _) (PySem.Value.str _ _)) _ _ _); k_dflt (refine' my_iadd_txt ?z ?_; (case z => first | omega | (simp only [List.length_cons, List.length_append, List.length_take, List.length_drop, List.length_nil]; omega)); k_whole); (intro _ _)))
local macro_rules | `(tactic| walk_at "binaryOp Add str str") => `(tactic| (k_here; (with_reducible show PySem.wpAny _ _ (PySem.binaryOp PySem.Operator.Add (PySem.Value.str _ _) (PySem.Value.str _ _)) _ _ _); k_dflt (refine' my_add_txt ?z ?_; (case z => first | omega | (simp only [List.length_cons, List.length_append, List.length_take, List.length_drop, List.length_nil]; omega)); k_whole); (intro _ _)))
local macro_rules | `(tactic| walk_at "subscriptTail Attribute") => `(tactic| (k_here; (with_reducible show PySem.wpAny _ _ (subscriptTail _ _ (PySem.Value.ref _) (PySem.Value.int _ _)) _ _ _); k_dflt (refine' my_item ?N ?m ?a ?b ?c ?_; (case N => k_asm); (case m => k_mem); (case a => omega); (case b => omega); (case c => k_asm))))

local macro_rules | `(tactic| walk_at "call builtin:list.extend") => `(tactic| (k_here; (with_reducible show PySem.wpAny _ _ (PySem.call (PySem.Value.builtin _) [PySem.Value.ref _, PySem.Value.str _ _]) _ _ _); k_dflt (refine' my_extend ?hh ?F ?N ?m ?z ?_; (case hh => exact rfl); (case F => k_asm); (case N => k_asm); (case m => k_mem); (case z => omega)); (intro h' us n' tk F' hus hN); (have N' := hN _ (by k_upd)); clear hN; (try k_sweep)))

theorem tells_lpeek (w : World) (x dx qa fx fd sm : Addr) (h_x_dx : @Ne Nat x dx) (h_x_qa : @Ne Nat x qa) (h_x_fx : @Ne Nat x fx) (h_x_fd : @Ne Nat x fd) (h_dx_qa : @Ne Nat dx qa) (h_dx_fx : @Ne Nat dx fx) (h_dx_fd : @Ne Nat dx fd) (h_qa_fx : @Ne Nat qa fx) (h_qa_fd : @Ne Nat qa fd) (h_fx_fd : @Ne Nat fx fd) (y1 y2 y3 y4 y5 y6 x1 x2 x3 : Int) (j1 j2 j3 j4 j5 j6 k1 k2 k3 k4 k5 k6 t : Tok) (nq : Nat) (e : Bool) (vs : List Value) (C : List Nat) (hC : Chars vs C) (hCl : C.length ≤ 1000) (Bf : Str) (p : Int) (hp : 0 ≤ p) (hB : (Bf.length : Int) ≤ 1000) (n : Int) (hn : 0 ≤ n) (hn2 : n ≤ 1000) (args : List Value) (hargs : args = [.ref x, .int n t] ∨ (args = [.ref x] ∧ n = 1 ∧ t = 919)) : Tells w 624 340 40 (fun _ => True)
   [(x, instObj 648 dx), (dx, dictOf [⟨y1, .str (Str.ofString "f") j1, .ref fx⟩, ⟨y2, .str (Str.ofString "debug") j2, .bool false⟩, ⟨y3, .str (Str.ofString "q") j3, .ref qa⟩, ⟨y4, .str (Str.ofString "state") j4, .ref sm⟩, ⟨y5, .str (Str.ofString "escaped") j5, .bool false⟩, ⟨y6, .str (Str.ofString "eof") j6, .bool e⟩] 6), (qa, listOf (List.toArray vs) nq), (fx, instObj 569 fd), (fd, dictOf [⟨x1, .str (Str.ofString "_StringIO__newline") k1, .str (Str.ofString "\n") k2⟩, ⟨x2, .str (Str.ofString "_StringIO__buf") k3, .str Bf k4⟩, ⟨x3, .str (Str.ofString "_StringIO__pos") k5, .int p k6⟩] 3)] args
   (fun v mods' => ∃ t' p' k6' vs' nq' C' e', v = .str (txt ((C ++ Bf.cps.toList.drop p.toNat).take n.toNat)) t' ∧ p ≤ p' ∧ Chars vs' C' ∧ C' = C ++ (Bf.cps.toList.drop p.toNat).take (n.toNat - C.length) ∧ Bf.cps.toList.drop p'.toNat = (Bf.cps.toList.drop p.toNat).drop (n.toNat - C.length) ∧
     e' = (e || (decide ((C.length : Int) < n) && (Bf.cps.toList.drop p.toNat).isEmpty)) ∧ mods' = [(x, instObj 648 dx), (dx, dictOf [⟨y1, .str (Str.ofString "f") j1, .ref fx⟩, ⟨y2, .str (Str.ofString "debug") j2, .bool false⟩, ⟨y3, .str (Str.ofString "q") j3, .ref qa⟩, ⟨y4, .str (Str.ofString "state") j4, .ref sm⟩, ⟨y5, .str (Str.ofString "escaped") j5, .bool false⟩, ⟨y6, .str (Str.ofString "eof") j6, .bool e'⟩] 6), (qa, listOf (List.toArray vs') nq'), (fx, instObj 569 fd), (fd, dictOf [⟨x1, .str (Str.ofString "_StringIO__newline") k1, .str (Str.ofString "\n") k2⟩, ⟨x2, .str (Str.ofString "_StringIO__buf") k3, .str Bf k4⟩, ⟨x3, .str (Str.ofString "_StringIO__pos") k5, .int p' k6'⟩] 3)]) := by
  have kf : (hd.heap_39 w.params).In = (hd.heap_39 w.params).In ∧ PySem.Challenge.rw_gr5003_01 = PySem.Challenge.rw_gr5003_01 := ⟨rfl, rfl⟩
  revert kf
  w_top off
  k_fill
  intro _
  refine' tells_of_body (binds := [(Str.ofString "self", .ref x), (Str.ofString "n", .int n t)]) ?ho ?hcd (by decide) (fun _ _ _ h => h) ?hb ?hl ?hc ?h1 ?h2 ?h3 ?body
  case ho => k_dflt k_is
  case hcd => k_dflt k_is
  case hb =>
    intro s X
    rcases hargs with rfl | ⟨rfl, rfl, rfl⟩
    · exact binds_K X rfl (by k_dflt k_is) rfl rfl rfl
    · exact binds_K X rfl (by k_dflt k_is) rfl rfl rfl
  case hl => exact locs rfl
  case hc => decide
  case h1 => rfl
  case h2 => rfl
  case h3 => rfl
  intro mean mg mb outer base g L' s A₀ B F X N T PR LT
  try dsimp only
  k_fold
  have LT2 := allLt_of LT
  simp only [AllLt, and_true] at LT2

  have hvl := hC.length
  refine wpAny_execs_cons ?_
  iterate 8 walk1
  refine wpAny_mono (Q := fun f s' => f = .next ∧ ∃ (h₁ : Heap) (tk₁ k : Nat) (ts ti tn : Tok), s' = { s with heap := h₁, toks := tk₁ } ∧ (k : Int) ≤ n ∧ k ≤ C.length ∧ (C.length ≤ k ∨ n - k = 0) ∧
     Fr g L' h₁ (fun y => if y = Str.ofString "n" then some (.int (n - k) tn) else if y = Str.ofString "i" then some (.int k ti) else if y = Str.ofString "s" then some (.str (txt (C.take k)) ts) else List.lookup y [(Str.ofString "self", Value.ref x), (Str.ofString "n", .int n t)].reverse) ∧ News g L' h₁ [(x, instObj 648 dx), (dx, dictOf [⟨y1, .str (Str.ofString "f") j1, .ref fx⟩, ⟨y2, .str (Str.ofString "debug") j2, .bool false⟩, ⟨y3, .str (Str.ofString "q") j3, .ref qa⟩, ⟨y4, .str (Str.ofString "state") j4, .ref sm⟩, ⟨y5, .str (Str.ofString "escaped") j5, .bool false⟩, ⟨y6, .str (Str.ofString "eof") j6, .bool e⟩] 6), (qa, listOf (List.toArray vs) nq), (fx, instObj 569 fd), (fd, dictOf [⟨x1, .str (Str.ofString "_StringIO__newline") k1, .str (Str.ofString "\n") k2⟩, ⟨x2, .str (Str.ofString "_StringIO__buf") k3, .str Bf k4⟩, ⟨x3, .str (Str.ofString "_StringIO__pos") k5, .int p k6⟩] 3)]) (E := fun _ _ => False) ?_ ?_ (fun _ _ h => h)
  · refine' While_inv (n₀ := n.toNat) (fun μ m₁ news₁ => ∃ (k : Nat) (ts ti tn : Tok), (k : Int) ≤ n ∧ k ≤ C.length ∧ μ = (n - k).toNat ∧
      m₁ = (fun y => if y = Str.ofString "n" then some (.int (n - k) tn) else if y = Str.ofString "i" then some (.int k ti) else if y = Str.ofString "s" then some (.str (txt (C.take k)) ts) else List.lookup y [(Str.ofString "self", Value.ref x), (Str.ofString "n", .int n t)].reverse) ∧ news₁ = [(x, instObj 648 dx), (dx, dictOf [⟨y1, .str (Str.ofString "f") j1, .ref fx⟩, ⟨y2, .str (Str.ofString "debug") j2, .bool false⟩, ⟨y3, .str (Str.ofString "q") j3, .ref qa⟩, ⟨y4, .str (Str.ofString "state") j4, .ref sm⟩, ⟨y5, .str (Str.ofString "escaped") j5, .bool false⟩, ⟨y6, .str (Str.ofString "eof") j6, .bool e⟩] 6), (qa, listOf (List.toArray vs) nq), (fx, instObj 569 fd), (fd, dictOf [⟨x1, .str (Str.ofString "_StringIO__newline") k1, .str (Str.ofString "\n") k2⟩, ⟨x2, .str (Str.ofString "_StringIO__buf") k3, .str Bf k4⟩, ⟨x3, .str (Str.ofString "_StringIO__pos") k5, .int p k6⟩] 3)]) (by assumption) (by assumption) ⟨0, s.toks, s.toks + 1 + 1, t, by omega, by omega, by simp, ?mm, rfl⟩ ?_ (by passes_own)
    case mm =>
      have e0 : n - ((0 : Nat) : Int) = n := by omega
      rw [e0]
      funext y
      by_cases h1 : y = Str.ofString "n"
      · subst h1; simp only [if_true, if_neg (show ¬ Str.ofString "n" = Str.ofString "s" by decide), if_neg (show ¬ Str.ofString "n" = Str.ofString "i" by decide)]; rfl
      · simp only [h1, if_false, empty_txt, List.take_zero]; rfl
    rintro μ m₁ news₁ h₁ tk₁ F₁ N₁ ⟨k, ts, ti, tn, hk1, hk2, rfl, rfl, rfl⟩
    refine wpAny_mono (Q := CondB s h₁ (decide ((k : Int) < C.length) && decide (0 < n - k))) (E := fun _ _ => False) ?_ ?_ (fun _ _ h => h)
    · walk_at "m_go"
      all_goals (refine condB_of ?_; first | exact condB_tt (by omega) (by omega) | exact condB_f1 (by omega) | exact condB_f2 (by omega))
    rintro b s₂ ⟨tk', rfl, rfl⟩
    refine ite_split (fun hb => ?_) (fun hb => ?_)
    · obtain ⟨hb1, hb2⟩ := Bool.and_eq_true_iff.mp hb
      have hb1 := of_decide_eq_true hb1
      have hb2 := of_decide_eq_true hb2
      obtain ⟨c, hc⟩ : ∃ c, C[k]? = some c := ⟨C[k]'(by omega), by simp⟩
      obtain ⟨tc, hv⟩ := hC.get hc
      have hv : vs[((k : Nat) : Int).toNat]? = some (.str ⟨#[c]⟩ tc) := hv
      have hT1 : C.take (k + 1) = C.take k ++ [c] := by rw [List.take_add_one, hc]; rfl
      show wpAny _ _ _ _ _ _
      try k_fold
      walk_at "m_go"
      have e1 : n - (k : Int) - 1 = n - ((k + 1 : Nat) : Int) := by omega
      have e2 : (k : Int) + 1 = ((k + 1 : Nat) : Int) := by omega
      refine' WhileStep.intro (by assumption) (by assumption) ?hlt ⟨k + 1, ?ts, ?ti, ?tn, by omega, by omega, rfl, ?mm, rfl⟩
      case mm => rw [hT1, ← e1, ← e2]; exact map_turn3
      case hlt => omega
    · refine ⟨rfl, _, _, k, ts, ti, tn, rfl, hk1, hk2, ?_, F₁, N₁⟩
      rcases Bool.and_eq_false_iff.mp hb with h | h
      · left; have := of_decide_eq_false h; omega
      · right; have := of_decide_eq_false h; omega
  · rintro f s' ⟨rfl, h₁, tk₁, k, ts, ti, tn, rfl, hk1, hk2, hend, F₁, N₁⟩
    have hk3 : (C.take k).length = k := by rw [List.length_take]; omega
    dsimp only
    show wpAny _ _ _ _ _ _
    try k_fold
    walk_at "m_go"
    refine' tells_use [(x, instObj 648 dx), (dx, dictOf [⟨y1, .str (Str.ofString "f") j1, .ref fx⟩, ⟨y2, .str (Str.ofString "debug") j2, .bool false⟩, ⟨y3, .str (Str.ofString "q") j3, .ref qa⟩, ⟨y4, .str (Str.ofString "state") j4, .ref sm⟩, ⟨y5, .str (Str.ofString "escaped") j5, .bool false⟩, ⟨y6, .str (Str.ofString "eof") j6, .bool e⟩] 6), (qa, listOf (List.toArray vs) nq)] (tells_sread w fx fd h_fx_fd x1 x2 x3 k1 k2 k3 k4 k5 k6 _ Bf p (n - k) hp hB ?e1 ?e2) ?d1 ?d2 ?kB ?kF ?kX ?kN ?kT ?hk ?hp ?hm ?hr ?hd ?kk
    case e1 => omega
    case e2 => omega
    case d1 => decide
    case d2 => decide
    case kB => k_asm
    case kF => k_asm
    case kX => k_asm
    case kN => k_asm
    case kT => k_asm
    case hk => rfl
    case hp => exact True.intro
    case hm => repeat' (first | exact List.forall_mem_nil _ | (refine' List.forall_mem_cons.mpr ⟨?_, ?_⟩) | k_mem | k_ne)
    case hr => repeat' (first | exact List.forall_mem_nil _ | (refine' List.forall_mem_cons.mpr ⟨?_, ?_⟩) | k_mem | k_ne)
    case hd => repeat' (first | exact List.forall_mem_nil _ | (refine' List.forall_mem_cons.mpr ⟨?_, ?_⟩) | k_mem | k_ne)

    intro v h' tk' mods' F' N' hf hP
    obtain ⟨t', p', k6', rfl, hpp, hdr, rfl⟩ := hP
    clear hf
    have N2 : News g L' h' [(x, instObj 648 dx), (dx, dictOf [⟨y1, .str (Str.ofString "f") j1, .ref fx⟩, ⟨y2, .str (Str.ofString "debug") j2, .bool false⟩, ⟨y3, .str (Str.ofString "q") j3, .ref qa⟩, ⟨y4, .str (Str.ofString "state") j4, .ref sm⟩, ⟨y5, .str (Str.ofString "escaped") j5, .bool false⟩, ⟨y6, .str (Str.ofString "eof") j6, .bool e⟩] 6), (qa, listOf (List.toArray vs) nq), (fx, instObj 569 fd), (fd, dictOf [⟨x1, .str (Str.ofString "_StringIO__newline") k1, .str (Str.ofString "\n") k2⟩, ⟨x2, .str (Str.ofString "_StringIO__buf") k3, .str Bf k4⟩, ⟨x3, .str (Str.ofString "_StringIO__pos") k5, .int p' k6'⟩] 3)] := by
      repeat' (first | exact List.forall_mem_nil _ | (refine' List.forall_mem_cons.mpr ⟨N' _ (by k_mem), ?_⟩))

    clear N' N₁ F₁
    generalize hRd : (Bf.cps.toList.drop p.toNat).take (n - (k : Int)).toNat = Rd
    have hk4 : Rd.length ≤ 1000 := by rw [← hRd, List.length_take]; omega
    show wpAny _ _ _ _ _ _
    walk_at "m_go"
    all_goals (obtain ⟨q1, q3, q4⟩ := lpeek_plain (C := C) (R := Bf.cps.toList.drop p.toNat) hk1 hk2 hend; have q5 := lpeek_eof (C := C) q4 hRd)
    all_goals (refine' endB_of (by assumption) (by assumption) ⟨_, p', k6', vs ++ _, _, C ++ Rd, _, congrArg (fun l => Value.str (txt l) _) ((hRd ▸ rfl : C.take k ++ Rd = C.take k ++ (Bf.cps.toList.drop p.toNat).take (n - (k : Int)).toNat).trans q1), hpp, hC.append (by assumption), by rw [← hRd, q3], by rw [hdr, q3], ?_, rfl⟩)
    all_goals (rw [q5])
    · rename 0 < n - (k : Int) => hy
      rename (txt _ == Str.ofString "") = true => hz
      rw [txt_beq_nil] at hz
      rw [decide_eq_true hy, hz, Bool.true_and, Bool.or_true]
    · rename 0 < n - (k : Int) => hy
      rename (txt _ == Str.ofString "") = false => hz
      rw [txt_beq_nil] at hz
      rw [hz, Bool.and_false, Bool.or_false]
    · rename ¬ 0 < n - (k : Int) => hy
      rw [decide_eq_false hy, Bool.false_and, Bool.or_false]
end Mine
end

section
open PySem PySem.W PySem.Calls PyProof.Rows
set_option Elab.async false
set_option maxRecDepth 100000
set_option maxHeartbeats 4000000
namespace Mine

set_option rowWalk.seconds 0

local macro_rules | `(tactic| walk_at "m_go") => `(tactic| repeat' (
  (fail_if_success (with_reducible show PySem.wpAny _ _ (PySem.call (PySem.Value.ref _) _) _ _ _))
  (fail_if_success (with_reducible show PySem.wpAny _ _ (PySem.exec (PySem.Stmt.While _ _ _ _) _) _ _ _))
  (fail_if_success (with_reducible show Mine.EndB _ _ _ _ _ _))
  (first | (k_unfold; (try dsimp only)) | walk1 | (dsimp only; walk1) | fail "no step")))

local macro_rules | `(tactic| walk_at "truthy ref") => `(tactic| (k_here; (with_reducible show PySem.wpAny _ _ (PySem.truthy (PySem.Value.ref _)) _ _ _); k_dflt (refine' my_truthy ?N ?m ?z ?_; (case N => k_asm); (case m => k_mem); (case z => first | omega | (simp only [List.length_cons]; omega)); k_whole); (intro _); (try simp only [List.isEmpty_cons, List.isEmpty_nil, Bool.not_false, Bool.not_true])))
local macro_rules | `(tactic| walk_at "call builtin:list.pop") => `(tactic| (k_here; (with_reducible show PySem.wpAny _ _ (PySem.call (PySem.Value.builtin _) [PySem.Value.ref _, PySem.Value.int _ _]) _ _ _); k_dflt (refine' my_pop0 ?F ?N ?U ?z ?_; (case F => k_asm); (case N => k_asm); (case U => k_upd); (case z => omega)); kl_rest))
local macro_rules | `(tactic| walk_at "call builtin:len") => `(tactic| (k_here; (with_reducible show PySem.wpAny _ _ (PySem.call (PySem.Value.builtin "len") [PySem.Value.ref _]) _ _ _); k_dflt (refine' my_len ?N ?m ?z ?_; (case N => k_asm); (case m => k_mem); (case z => first | omega | (simp only [List.length_cons]; omega)); k_whole); (intro _ _)))

local macro_rules | `(tactic| walk_at "inplaceOp Add str str") => `(tactic| (k_here; (with_reducible show PySem.wpAny _ _ (PySem.inplaceOp PySem.Operator.Add (PySem.Value.str _ _) (PySem.Value.str _ _)) _ _ _); k_dflt (refine' my_iadd_txt ?z ?_; (case z => first | omega | (simp only [List.length_cons, List.length_append, List.length_take, List.length_drop, List.length_nil]; omega)); k_whole); (intro _ _)))
local macro_rules | `(tactic| walk_at "binaryOp Add str str") => `(tactic| (k_here; (with_reducible show PySem.wpAny _ _ (PySem.binaryOp PySem.Operator.Add (PySem.Value.str _ _) (PySem.Value.str _ _)) _ _ _); k_dflt (refine' my_add_txt ?z ?_; (case z => first | omega | (simp only [List.length_cons, List.length_append, List.length_take, List.length_drop, List.length_nil]; omega)); k_whole); (intro _ _)))
local macro_rules | `(tactic| walk_at "subscriptTail Attribute") => `(tactic| (k_here; (with_reducible show PySem.wpAny _ _ (subscriptTail _ _ (PySem.Value.ref _) (PySem.Value.int _ _)) _ _ _); k_dflt (refine' my_item ?N ?m ?a ?b ?c ?_; (case N => k_asm); (case m => k_mem); (case a => omega); (case b => omega); (case c => k_asm))))

local macro_rules | `(tactic| walk_at "call builtin:list.extend") => `(tactic| (k_here; (with_reducible show PySem.wpAny _ _ (PySem.call (PySem.Value.builtin _) [PySem.Value.ref _, PySem.Value.str _ _]) _ _ _); k_dflt (refine' my_extend ?hh ?F ?N ?m ?z ?_; (case hh => exact rfl); (case F => k_asm); (case N => k_asm); (case m => k_mem); (case z => omega)); (intro h' us n' tk F' hus hN); (have N' := hN _ (by k_upd)); clear hN; (try k_sweep)))

local macro_rules | `(tactic| walk_at "call builtin:list.extend") => `(tactic| (k_here; (with_reducible show PySem.wpAny _ _ (PySem.call (PySem.Value.builtin _) [PySem.Value.ref _, PySem.Value.ref _]) _ _ _); k_dflt (refine' my_extend_list ?F ?N ?m ?b ?z ?_; (case F => k_asm); (case N => k_asm); (case m => k_mem); (case b => k_mem); (case z => omega)); (intro h' n' F' hN); (have N' := hN _ (by k_upd)); clear hN; (try k_sweep)))
local macro_rules | `(tactic| walk_at "call type:list") => `(tactic| (k_here; (with_reducible show PySem.wpAny _ _ (PySem.call (PySem.Value.type _) [PySem.Value.str _ _]) _ _ _); k_dflt (refine' my_list_str ?hh ?F ?N ?z ?_; (case hh => exact rfl); (case F => k_asm); (case N => k_asm); (case z => omega)); (intro D h' us n' tk F' hus N' l1); (have hul := Chars.length hus); (try k_lt l1); (try k_sweep)))

theorem tells_lpush (w : World) (x dx qa fx fd sm : Addr) (h_x_dx : @Ne Nat x dx) (h_x_qa : @Ne Nat x qa) (h_x_fx : @Ne Nat x fx) (h_x_fd : @Ne Nat x fd) (h_dx_qa : @Ne Nat dx qa) (h_dx_fx : @Ne Nat dx fx) (h_dx_fd : @Ne Nat dx fd) (h_qa_fx : @Ne Nat qa fx) (h_qa_fd : @Ne Nat qa fd) (h_fx_fd : @Ne Nat fx fd) (y1 y2 y3 y4 y5 y6 x1 x2 x3 : Int) (j1 j2 j3 j4 j5 j6 k1 k2 k3 k4 k5 k6 t : Tok) (nq : Nat) (e : Bool) (vs : List Value) (C : List Nat) (hC : Chars vs C) (hCl : C.length ≤ 1000) (Bf : Str) (p : Int) (hp : 0 ≤ p) (hB : (Bf.length : Int) ≤ 1000) (b : List Nat) (hb : b.length ≤ 1000) : Tells w 631 340 40 (fun _ => True)
   [(x, instObj 648 dx), (dx, dictOf [⟨y1, .str (Str.ofString "f") j1, .ref fx⟩, ⟨y2, .str (Str.ofString "debug") j2, .bool false⟩, ⟨y3, .str (Str.ofString "q") j3, .ref qa⟩, ⟨y4, .str (Str.ofString "state") j4, .ref sm⟩, ⟨y5, .str (Str.ofString "escaped") j5, .bool false⟩, ⟨y6, .str (Str.ofString "eof") j6, .bool e⟩] 6), (qa, listOf (List.toArray vs) nq), (fx, instObj 569 fd), (fd, dictOf [⟨x1, .str (Str.ofString "_StringIO__newline") k1, .str (Str.ofString "\n") k2⟩, ⟨x2, .str (Str.ofString "_StringIO__buf") k3, .str Bf k4⟩, ⟨x3, .str (Str.ofString "_StringIO__pos") k5, .int p k6⟩] 3)] [.ref x, .str (txt b) t]
   (fun v mods' => ∃ qa' vs' nq', v = .none ∧ Chars vs' (b ++ C) ∧ @Ne Nat x qa' ∧ @Ne Nat dx qa' ∧ @Ne Nat qa' fx ∧ @Ne Nat qa' fd ∧ mods' = [(x, instObj 648 dx), (dx, dictOf [⟨y1, .str (Str.ofString "f") j1, .ref fx⟩, ⟨y2, .str (Str.ofString "debug") j2, .bool false⟩, ⟨y3, .str (Str.ofString "q") j3, .ref qa'⟩, ⟨y4, .str (Str.ofString "state") j4, .ref sm⟩, ⟨y5, .str (Str.ofString "escaped") j5, .bool false⟩, ⟨y6, .str (Str.ofString "eof") j6, .bool e⟩] 6), (qa', listOf (List.toArray vs') nq'), (fx, instObj 569 fd), (fd, dictOf [⟨x1, .str (Str.ofString "_StringIO__newline") k1, .str (Str.ofString "\n") k2⟩, ⟨x2, .str (Str.ofString "_StringIO__buf") k3, .str Bf k4⟩, ⟨x3, .str (Str.ofString "_StringIO__pos") k5, .int p k6⟩] 3)]) := by
  have kf : (hd.heap_39 w.params).In = (hd.heap_39 w.params).In ∧ PySem.Challenge.rw_gr5003_01 = PySem.Challenge.rw_gr5003_01 := ⟨rfl, rfl⟩
  revert kf
  w_top off
  k_fill
  intro _
  refine' tells_of_body (binds := [(Str.ofString "self", .ref x), (Str.ofString "s", .str (txt b) t)]) ?ho ?hcd (by decide) (fun _ _ _ h => h) ?hb ?hl ?hc ?h1 ?h2 ?h3 ?body
  case ho => k_dflt k_is
  case hcd => k_dflt k_is
  case hb => intro s X; first | exact BindsTo.of_eq rfl | exact binds_K X rfl (by k_dflt k_is) rfl rfl rfl
  case hl => exact locs rfl
  case hc => decide
  case h1 => rfl
  case h2 => rfl
  case h3 => rfl
  intro mean mg mb outer base g L' s A₀ B F X N T PR LT
  try dsimp only
  k_fold
  have LT2 := allLt_of LT
  simp only [AllLt, and_true] at LT2

  have hvl := hC.length
  k_steps
  rename News _ _ _ _ => NN
  refine' endB_of (by assumption) (m' := _) (mods' := [(x, instObj 648 dx), (dx, dictOf [⟨y1, .str (Str.ofString "f") j1, .ref fx⟩, ⟨y2, .str (Str.ofString "debug") j2, .bool false⟩, ⟨y3, .str (Str.ofString "q") j3, .ref ?qa⟩, ⟨y4, .str (Str.ofString "state") j4, .ref sm⟩, ⟨y5, .str (Str.ofString "escaped") j5, .bool false⟩, ⟨y6, .str (Str.ofString "eof") j6, .bool e⟩] 6), (?qa, listOf (List.toArray ?vs) ?nq), (fx, instObj 569 fd), (fd, dictOf [⟨x1, .str (Str.ofString "_StringIO__newline") k1, .str (Str.ofString "\n") k2⟩, ⟨x2, .str (Str.ofString "_StringIO__buf") k3, .str Bf k4⟩, ⟨x3, .str (Str.ofString "_StringIO__pos") k5, .int p k6⟩] 3)]) ?nn ⟨?qa, ?vs, ?nq, rfl, ?cc, ?d1, ?d2, ?d3, ?d4, rfl⟩
  case nn => repeat' (first | exact List.forall_mem_nil _ | (refine' List.forall_mem_cons.mpr ⟨NN _ (by k_mem), ?_⟩))
  case cc => exact Chars.append (by assumption) hC
  all_goals (first | omega | k_ne)
end Mine
end

section
open PySem PySem.W PySem.Calls PyProof.Rows
set_option Elab.async false
set_option maxRecDepth 100000
set_option maxHeartbeats 4000000
namespace Mine

set_option rowWalk.seconds 0

local macro_rules | `(tactic| walk_at "m_go") => `(tactic| repeat' (
  (fail_if_success (with_reducible show PySem.wpAny _ _ (PySem.call (PySem.Value.ref _) _) _ _ _))
  (fail_if_success (with_reducible show PySem.wpAny _ _ (PySem.exec (PySem.Stmt.While _ _ _ _) _) _ _ _))
  (fail_if_success (with_reducible show Mine.EndB _ _ _ _ _ _))
  (first | (k_unfold; (try dsimp only)) | walk1 | (dsimp only; walk1) | fail "no step")))

local macro_rules | `(tactic| walk_at "truthy ref") => `(tactic| (k_here; (with_reducible show PySem.wpAny _ _ (PySem.truthy (PySem.Value.ref _)) _ _ _); k_dflt (refine' my_truthy ?N ?m ?z ?_; (case N => k_asm); (case m => k_mem); (case z => first | omega | (simp only [List.length_cons]; omega)); k_whole); (intro _); (try simp only [List.isEmpty_cons, List.isEmpty_nil, Bool.not_false, Bool.not_true])))
local macro_rules | `(tactic| walk_at "call builtin:list.pop") => `(tactic| (k_here; (with_reducible show PySem.wpAny _ _ (PySem.call (PySem.Value.builtin _) [PySem.Value.ref _, PySem.Value.int _ _]) _ _ _); k_dflt (refine' my_pop0 ?F ?N ?U ?z ?_; (case F => k_asm); (case N => k_asm); (case U => k_upd); (case z => omega)); kl_rest))
local macro_rules | `(tactic| walk_at "call builtin:len") => `(tactic| (k_here; (with_reducible show PySem.wpAny _ _ (PySem.call (PySem.Value.builtin "len") [PySem.Value.ref _]) _ _ _); k_dflt (refine' my_len ?N ?m ?z ?_; (case N => k_asm); (case m => k_mem); (case z => first | omega | (simp only [List.length_cons]; omega)); k_whole); (intro _ _)))

local macro_rules | `(tactic| walk_at "inplaceOp Add str str") => `(tactic| (k_here; (with_reducible show PySem.wpAny _ _ (PySem.inplaceOp PySem.Operator.Add (PySem.Value.str _ _) (PySem.Value.str _ _)) _ _ _); k_dflt (refine' my_iadd_txt ?z ?_; (case z => first | omega | (simp only [List.length_cons, List.length_append, List.length_take, List.length_drop, List.length_nil]; omega)); k_whole); (intro _ _)))
local macro_rules | `(tactic| walk_at "binaryOp Add str str") => `(tactic| (k_here; (with_reducible show PySem.wpAny _ _ (PySem.binaryOp PySem.Operator.Add (PySem.Value.str _ _) (PySem.Value.str _ _)) _ _ _); k_dflt (refine' my_add_txt ?z ?_; (case z => first | omega | (simp only [List.length_cons, List.length_append, List.length_take, List.length_drop, List.length_nil]; omega)); k_whole); (intro _ _)))
local macro_rules | `(tactic| walk_at "subscriptTail Attribute") => `(tactic| (k_here; (with_reducible show PySem.wpAny _ _ (subscriptTail _ _ (PySem.Value.ref _) (PySem.Value.int _ _)) _ _ _); k_dflt (refine' my_item ?N ?m ?a ?b ?c ?_; (case N => k_asm); (case m => k_mem); (case a => omega); (case b => omega); (case c => k_asm))))

local macro_rules | `(tactic| walk_at "call builtin:list.extend") => `(tactic| (k_here; (with_reducible show PySem.wpAny _ _ (PySem.call (PySem.Value.builtin _) [PySem.Value.ref _, PySem.Value.str _ _]) _ _ _); k_dflt (refine' my_extend ?hh ?F ?N ?m ?z ?_; (case hh => exact rfl); (case F => k_asm); (case N => k_asm); (case m => k_mem); (case z => omega)); (intro h' us n' tk F' hus hN); (have N' := hN _ (by k_upd)); clear hN; (try k_sweep)))

local macro_rules | `(tactic| walk_at "call builtin:list.extend") => `(tactic| (k_here; (with_reducible show PySem.wpAny _ _ (PySem.call (PySem.Value.builtin _) [PySem.Value.ref _, PySem.Value.ref _]) _ _ _); k_dflt (refine' my_extend_list ?F ?N ?m ?b ?z ?_; (case F => k_asm); (case N => k_asm); (case m => k_mem); (case b => k_mem); (case z => omega)); (intro h' n' F' hN); (have N' := hN _ (by k_upd)); clear hN; (try k_sweep)))
local macro_rules | `(tactic| walk_at "call type:list") => `(tactic| (k_here; (with_reducible show PySem.wpAny _ _ (PySem.call (PySem.Value.type _) [PySem.Value.str _ _]) _ _ _); k_dflt (refine' my_list_str ?hh ?F ?N ?z ?_; (case hh => exact rfl); (case F => k_asm); (case N => k_asm); (case z => omega)); (intro D h' us n' tk F' hus N' l1); (have hul := Chars.length hus); (try k_lt l1); (try k_sweep)))

local macro_rules | `(tactic| walk_at "subscriptTail Name Slice str ref") => `(tactic| (k_here; (with_reducible show PySem.wpAny _ _ (subscriptTail _ (PySem.Expr.Slice none (some _) none _) (PySem.Value.str (txt _) _) _) _ _ _); (with_reducible rename Fr _ _ _ _ => F'); (with_reducible rename News _ _ _ _ => N'); (refine my_slice_to (s := ⟨_, _, _, _, _⟩) F' N' (by omega) (by first | omega | (simp only [List.length_take, List.length_drop]; omega)) ?_); (intro _ _ _ _ _)))
local macro_rules | `(tactic| walk_at "subscriptTail Name Slice str ref") => `(tactic| (k_here; (with_reducible show PySem.wpAny _ _ (subscriptTail _ (PySem.Expr.Slice (some _) none none _) (PySem.Value.str (txt _) _) _) _ _ _); (with_reducible rename Fr _ _ _ _ => F'); (with_reducible rename News _ _ _ _ => N'); (refine my_slice_from (s := ⟨_, _, _, _, _⟩) F' N' (by omega) (by first | omega | (simp only [List.length_take, List.length_drop]; omega)) ?_); (intro _ _ _ _ _)))
local macro_rules | `(tactic| walk_at "call builtin:len") => `(tactic| (k_here; (with_reducible show PySem.wpAny _ _ (PySem.call (PySem.Value.builtin "len") [PySem.Value.str (txt _) _]) _ _ _); (refine my_len_txt (by first | omega | (simp only [List.length_take, List.length_drop]; omega)) ?_); (intro _ _)))

theorem due_end {g : Heap} {L a : Addr} {s₀ : Shared} {kind size : Int} {b R R' : List Nat} {h : Nat} {h' : Int} {e e' : Bool} {t1' t2' : Tok} {n' : Nat} {m' : Str → Option Value} {ledger : Led} {v : Value} {hp : Heap} {tk' : Nat}
    (F : Fr g L hp m') (N : News g L hp ledger) (hm : (a, listOf (List.toArray [.str (txt R') t1', .int h' t2', .bool e']) n') ∈ ledger) (hv : VIs v (dueV kind size R)) (hr : R' = dueR kind size b R) (hh : h' = ((dueH kind size b R h : Nat) : Int)) (he : e' = dueE kind size R h e) :
    EndB g L s₀ (fun v mods' => ∃ R' h' e' t1' t2' n', VIs v (dueV kind size R) ∧ R' = dueR kind size b R ∧ h' = ((dueH kind size b R h : Nat) : Int) ∧ e' = dueE kind size R h e ∧ mods' = [(a, listOf (List.toArray [.str (txt R') t1', .int h' t2', .bool e']) n')]) v { s₀ with heap := hp, toks := tk' } :=
  endB_of F (fun p hp => by rw [List.mem_singleton.mp hp]; exact N _ hm) ⟨R', h', e', t1', t2', n', hv, hr, hh, he, rfl⟩
theorem tells_due (w : World) (a : Addr) (R b : List Nat) (h : Nat) (e : Bool) (t1 t2 tk ts tb : Tok) (nm : Nat) (kind size : Int) (hk0 : 0 ≤ kind) (hk4 : kind ≤ 4) (hs0 : 0 ≤ size) (hs5 : size ≤ 1000) (hh : h ≤ 1000) (hR : R.length ≤ 1000) (hb : b.length ≤ 1000) : Tells w 685 340 40 (fun _ => True)
   [(a, listOf (List.toArray [.str (txt R) t1, .int h t2, .bool e]) nm)] [.ref a, .int kind tk, .int size ts, .str (txt b) tb]
   (fun v mods' => ∃ R' h' e' t1' t2' n', VIs v (dueV kind size R) ∧ R' = dueR kind size b R ∧ h' = ((dueH kind size b R h : Nat) : Int) ∧ e' = dueE kind size R h e ∧ mods' = [(a, listOf (List.toArray [.str (txt R') t1', .int h' t2', .bool e']) n')]) := by
  have kf : (hd.heap_39 w.params).In = (hd.heap_39 w.params).In ∧ PySem.Challenge.rw_gr5003_01 = PySem.Challenge.rw_gr5003_01 := ⟨rfl, rfl⟩
  revert kf
  w_top off
  k_fill
  intro _
  refine' tells_of_body (binds := [(Str.ofString "model", .ref a), (Str.ofString "kind", .int kind tk), (Str.ofString "size", .int size ts), (Str.ofString "back", .str (txt b) tb)]) ?ho ?hcd (by decide) (fun _ _ _ h => h) ?hb ?hl ?hc ?h1 ?h2 ?h3 ?body
  case ho => k_dflt k_is
  case hcd => k_dflt k_is
  case hb => intro s X; first | exact BindsTo.of_eq rfl | exact binds_K X rfl (by k_dflt k_is) rfl rfl rfl
  case hl => exact locs rfl
  case hc => decide
  case h1 => rfl
  case h2 => rfl
  case h3 => rfl
  intro mean mg mb outer base g L' s A₀ B F X N T PR LT
  try dsimp only
  k_fold
  have LT2 := allLt_of LT
  simp only [AllLt, and_true] at LT2

  walk_at "m_go"
  all_goals (first | (exfalso; omega) | skip)
  all_goals (refine due_end (by assumption) (by assumption) (by k_mem) ?_ ?_ ?_ ?_)
  all_goals (obtain rfl | rfl | rfl | rfl | rfl : kind = 0 ∨ kind = 1 ∨ kind = 2 ∨ kind = 3 ∨ kind = 4 := by omega)
  all_goals (first | (exfalso; omega) | skip)
  all_goals (first | rfl | exact ⟨_, rfl⟩ | skip)
  all_goals (first | exact due_r1 _ _ | exact due_h1 (by omega) | exact due_h2 (by omega) | exact due_e1 (by assumption) | exact due_e2 (by assumption) | exact due_e3 (z := 1) (by assumption) (by omega) (by assumption) | exact due_e3 (z := size) (by assumption) (by omega) (by assumption) | exact due_e4 (by assumption) (by omega) (by assumption))
end Mine
end

section
open PySem PySem.W PySem.Calls PyProof.Rows
set_option Elab.async false
set_option maxRecDepth 100000
set_option maxHeartbeats 4000000
namespace Mine

set_option rowWalk.seconds 0

local macro_rules | `(tactic| walk_at "m_go") => `(tactic| repeat' (
  (fail_if_success (with_reducible show PySem.wpAny _ _ (PySem.call (PySem.Value.ref _) _) _ _ _))
  (fail_if_success (with_reducible show PySem.wpAny _ _ (PySem.exec (PySem.Stmt.While _ _ _ _) _) _ _ _))
  (fail_if_success (with_reducible show Mine.EndB _ _ _ _ _ _))
  (first | (k_unfold; (try dsimp only)) | walk1 | (dsimp only; walk1) | fail "no step")))

local macro_rules | `(tactic| walk_at "truthy ref") => `(tactic| (k_here; (with_reducible show PySem.wpAny _ _ (PySem.truthy (PySem.Value.ref _)) _ _ _); k_dflt (refine' my_truthy ?N ?m ?z ?_; (case N => k_asm); (case m => k_mem); (case z => first | omega | (simp only [List.length_cons]; omega)); k_whole); (intro _); (try simp only [List.isEmpty_cons, List.isEmpty_nil, Bool.not_false, Bool.not_true])))
local macro_rules | `(tactic| walk_at "call builtin:list.pop") => `(tactic| (k_here; (with_reducible show PySem.wpAny _ _ (PySem.call (PySem.Value.builtin _) [PySem.Value.ref _, PySem.Value.int _ _]) _ _ _); k_dflt (refine' my_pop0 ?F ?N ?U ?z ?_; (case F => k_asm); (case N => k_asm); (case U => k_upd); (case z => omega)); kl_rest))
local macro_rules | `(tactic| walk_at "call builtin:len") => `(tactic| (k_here; (with_reducible show PySem.wpAny _ _ (PySem.call (PySem.Value.builtin "len") [PySem.Value.ref _]) _ _ _); k_dflt (refine' my_len ?N ?m ?z ?_; (case N => k_asm); (case m => k_mem); (case z => first | omega | (simp only [List.length_cons]; omega)); k_whole); (intro _ _)))

local macro_rules | `(tactic| walk_at "inplaceOp Add str str") => `(tactic| (k_here; (with_reducible show PySem.wpAny _ _ (PySem.inplaceOp PySem.Operator.Add (PySem.Value.str _ _) (PySem.Value.str _ _)) _ _ _); k_dflt (refine' my_iadd_txt ?z ?_; (case z => first | omega | (simp only [List.length_cons, List.length_append, List.length_take, List.length_drop, List.length_nil]; omega)); k_whole); (intro _ _)))
local macro_rules | `(tactic| walk_at "binaryOp Add str str") => `(tactic| (k_here; (with_reducible show PySem.wpAny _ _ (PySem.binaryOp PySem.Operator.Add (PySem.Value.str _ _) (PySem.Value.str _ _)) _ _ _); k_dflt (refine' my_add_txt ?z ?_; (case z => first | omega | (simp only [List.length_cons, List.length_append, List.length_take, List.length_drop, List.length_nil]; omega)); k_whole); (intro _ _)))
local macro_rules | `(tactic| walk_at "subscriptTail Attribute") => `(tactic| (k_here; (with_reducible show PySem.wpAny _ _ (subscriptTail _ _ (PySem.Value.ref _) (PySem.Value.int _ _)) _ _ _); k_dflt (refine' my_item ?N ?m ?a ?b ?c ?_; (case N => k_asm); (case m => k_mem); (case a => omega); (case b => omega); (case c => k_asm))))

local macro_rules | `(tactic| walk_at "call builtin:list.extend") => `(tactic| (k_here; (with_reducible show PySem.wpAny _ _ (PySem.call (PySem.Value.builtin _) [PySem.Value.ref _, PySem.Value.str _ _]) _ _ _); k_dflt (refine' my_extend ?hh ?F ?N ?m ?z ?_; (case hh => exact rfl); (case F => k_asm); (case N => k_asm); (case m => k_mem); (case z => omega)); (intro h' us n' tk F' hus hN); (have N' := hN _ (by k_upd)); clear hN; (try k_sweep)))

local macro_rules | `(tactic| walk_at "call builtin:list.extend") => `(tactic| (k_here; (with_reducible show PySem.wpAny _ _ (PySem.call (PySem.Value.builtin _) [PySem.Value.ref _, PySem.Value.ref _]) _ _ _); k_dflt (refine' my_extend_list ?F ?N ?m ?b ?z ?_; (case F => k_asm); (case N => k_asm); (case m => k_mem); (case b => k_mem); (case z => omega)); (intro h' n' F' hN); (have N' := hN _ (by k_upd)); clear hN; (try k_sweep)))
local macro_rules | `(tactic| walk_at "call type:list") => `(tactic| (k_here; (with_reducible show PySem.wpAny _ _ (PySem.call (PySem.Value.type _) [PySem.Value.str _ _]) _ _ _); k_dflt (refine' my_list_str ?hh ?F ?N ?z ?_; (case hh => exact rfl); (case F => k_asm); (case N => k_asm); (case z => omega)); (intro D h' us n' tk F' hus N' l1); (have hul := Chars.length hus); (try k_lt l1); (try k_sweep)))

local macro_rules | `(tactic| walk_at "subscriptTail Name Slice str ref") => `(tactic| (k_here; (with_reducible show PySem.wpAny _ _ (subscriptTail _ (PySem.Expr.Slice none (some _) none _) (PySem.Value.str (txt _) _) _) _ _ _); (with_reducible rename Fr _ _ _ _ => F'); (with_reducible rename News _ _ _ _ => N'); (refine my_slice_to (s := ⟨_, _, _, _, _⟩) F' N' (by omega) (by first | omega | (simp only [List.length_take, List.length_drop]; omega)) ?_); (intro _ _ _ _ _)))
local macro_rules | `(tactic| walk_at "subscriptTail Name Slice str ref") => `(tactic| (k_here; (with_reducible show PySem.wpAny _ _ (subscriptTail _ (PySem.Expr.Slice (some _) none none _) (PySem.Value.str (txt _) _) _) _ _ _); (with_reducible rename Fr _ _ _ _ => F'); (with_reducible rename News _ _ _ _ => N'); (refine my_slice_from (s := ⟨_, _, _, _, _⟩) F' N' (by omega) (by first | omega | (simp only [List.length_take, List.length_drop]; omega)) ?_); (intro _ _ _ _ _)))
local macro_rules | `(tactic| walk_at "call builtin:len") => `(tactic| (k_here; (with_reducible show PySem.wpAny _ _ (PySem.call (PySem.Value.builtin "len") [PySem.Value.str (txt _) _]) _ _ _); (refine my_len_txt (by first | omega | (simp only [List.length_take, List.length_drop]; omega)) ?_); (intro _ _)))

theorem tells_deed (w : World) (x dx qa fx fd sm : Addr) (h_x_dx : @Ne Nat x dx) (h_x_qa : @Ne Nat x qa) (h_x_fx : @Ne Nat x fx) (h_x_fd : @Ne Nat x fd) (h_dx_qa : @Ne Nat dx qa) (h_dx_fx : @Ne Nat dx fx) (h_dx_fd : @Ne Nat dx fd) (h_qa_fx : @Ne Nat qa fx) (h_qa_fd : @Ne Nat qa fd) (h_fx_fd : @Ne Nat fx fd) (y1 y2 y3 y4 y5 y6 x1 x2 x3 : Int) (j1 j2 j3 j4 j5 j6 k1 k2 k3 k4 k5 k6 tk ts tb : Tok) (nq : Nat) (e : Bool) (vs : List Value) (C : List Nat) (hC : Chars vs C) (hCl : C.length ≤ 1000) (Bf : Str) (p : Int) (hp : 0 ≤ p) (hB : (Bf.length : Int) ≤ 1000) (b : List Nat) (hb : b.length ≤ 1000) (kind size : Int) (hk0 : 0 ≤ kind) (hk4 : kind ≤ 4) (hs0 : 0 ≤ size) (hs5 : size ≤ 1000) : Tells w 692 320 30 (fun _ => True)
   [(x, instObj 648 dx), (dx, dictOf [⟨y1, .str (Str.ofString "f") j1, .ref fx⟩, ⟨y2, .str (Str.ofString "debug") j2, .bool false⟩, ⟨y3, .str (Str.ofString "q") j3, .ref qa⟩, ⟨y4, .str (Str.ofString "state") j4, .ref sm⟩, ⟨y5, .str (Str.ofString "escaped") j5, .bool false⟩, ⟨y6, .str (Str.ofString "eof") j6, .bool e⟩] 6), (qa, listOf (List.toArray vs) nq), (fx, instObj 569 fd), (fd, dictOf [⟨x1, .str (Str.ofString "_StringIO__newline") k1, .str (Str.ofString "\n") k2⟩, ⟨x2, .str (Str.ofString "_StringIO__buf") k3, .str Bf k4⟩, ⟨x3, .str (Str.ofString "_StringIO__pos") k5, .int p k6⟩] 3)] [.ref x, .int kind tk, .int size ts, .str (txt b) tb]
   (fun v mods' => ∃ qa' vs' C' nq' p' k6' e', VIs v (dueV kind size (C ++ Bf.cps.toList.drop p.toNat)) ∧ Chars vs' C' ∧ 0 ≤ p' ∧ C' ++ Bf.cps.toList.drop p'.toNat = dueR kind size b (C ++ Bf.cps.toList.drop p.toNat) ∧ C'.length = dueH kind size b (C ++ Bf.cps.toList.drop p.toNat) C.length ∧ e' = dueE kind size (C ++ Bf.cps.toList.drop p.toNat) C.length e ∧ @Ne Nat x qa' ∧ @Ne Nat dx qa' ∧ @Ne Nat qa' fx ∧ @Ne Nat qa' fd ∧ mods' = [(x, instObj 648 dx), (dx, dictOf [⟨y1, .str (Str.ofString "f") j1, .ref fx⟩, ⟨y2, .str (Str.ofString "debug") j2, .bool false⟩, ⟨y3, .str (Str.ofString "q") j3, .ref qa'⟩, ⟨y4, .str (Str.ofString "state") j4, .ref sm⟩, ⟨y5, .str (Str.ofString "escaped") j5, .bool false⟩, ⟨y6, .str (Str.ofString "eof") j6, .bool e'⟩] 6), (qa', listOf (List.toArray vs') nq'), (fx, instObj 569 fd), (fd, dictOf [⟨x1, .str (Str.ofString "_StringIO__newline") k1, .str (Str.ofString "\n") k2⟩, ⟨x2, .str (Str.ofString "_StringIO__buf") k3, .str Bf k4⟩, ⟨x3, .str (Str.ofString "_StringIO__pos") k5, .int p' k6'⟩] 3)]) := by
  have kf : (hd.heap_39 w.params).In = (hd.heap_39 w.params).In ∧ PySem.Challenge.rw_gr5003_01 = PySem.Challenge.rw_gr5003_01 := ⟨rfl, rfl⟩
  revert kf
  w_top off
  k_fill
  intro _
  refine' tells_of_body (binds := [(Str.ofString "lexer", .ref x), (Str.ofString "kind", .int kind tk), (Str.ofString "size", .int size ts), (Str.ofString "back", .str (txt b) tb)]) ?ho ?hcd (by decide) (fun _ _ _ h => h) ?hb ?hl ?hc ?h1 ?h2 ?h3 ?body
  case ho => k_dflt k_is
  case hcd => k_dflt k_is
  case hb => intro s X; first | exact BindsTo.of_eq rfl | exact binds_K X rfl (by k_dflt k_is) rfl rfl rfl
  case hl => exact locs rfl
  case hc => decide
  case h1 => rfl
  case h2 => rfl
  case h3 => rfl
  intro mean mg mb outer base g L' s A₀ B F X N T PR LT
  try dsimp only
  k_fold
  have LT2 := allLt_of LT
  simp only [AllLt, and_true] at LT2

  have hvl := hC.length
  walk_at "m_go"
  · obtain rfl : kind = 0 := by omega
    refine tells_use [] (tells_lread w x dx qa fx fd sm h_x_dx h_x_qa h_x_fx h_x_fd h_dx_qa h_dx_fx h_dx_fd h_qa_fx h_qa_fd h_fx_fd y1 y2 y3 y4 y5 y6 x1 x2 x3 j1 j2 j3 j4 j5 j6 k1 k2 k3 k4 k5 k6 ts nq e vs C hC hCl Bf p hp hB size hs0 (by omega) _ (.inl rfl)) (by decide) (by decide) (by k_asm) (by k_asm) (by k_asm) (by k_asm) (by k_asm) rfl True.intro (by repeat' (first | exact List.forall_mem_nil _ | (refine' List.forall_mem_cons.mpr ⟨?_, ?_⟩) | k_mem | k_ne)) (by repeat' (first | exact List.forall_mem_nil _ | (refine' List.forall_mem_cons.mpr ⟨?_, ?_⟩) | k_mem | k_ne)) (by repeat' (first | exact List.forall_mem_nil _ | (refine' List.forall_mem_cons.mpr ⟨?_, ?_⟩) | k_mem | k_ne)) ?_
    intro v h' tk' mods' F' N' hf hP
    rw [List.append_nil] at N'
    obtain ⟨t', p', k6', vs', nq', C', e', rfl, hpp, hC', hCe, hdr, he, rfl⟩ := hP
    obtain ⟨r1, r2⟩ := deed_read C (Bf.cps.toList.drop p.toNat) size.toNat
    exact endB_of F' N' ⟨qa, vs', C', nq', p', k6', e', ⟨_, rfl⟩, hC', by omega, by rw [hCe, hdr]; exact r1, by rw [hCe]; exact r2, he, h_x_qa, h_dx_qa, h_qa_fx, h_qa_fd, rfl⟩
  · obtain rfl : kind = 1 := by omega
    refine tells_use [] (tells_lpeek w x dx qa fx fd sm h_x_dx h_x_qa h_x_fx h_x_fd h_dx_qa h_dx_fx h_dx_fd h_qa_fx h_qa_fd h_fx_fd y1 y2 y3 y4 y5 y6 x1 x2 x3 j1 j2 j3 j4 j5 j6 k1 k2 k3 k4 k5 k6 ts nq e vs C hC hCl Bf p hp hB size hs0 (by omega) _ (.inl rfl)) (by decide) (by decide) (by k_asm) (by k_asm) (by k_asm) (by k_asm) (by k_asm) rfl True.intro (by repeat' (first | exact List.forall_mem_nil _ | (refine' List.forall_mem_cons.mpr ⟨?_, ?_⟩) | k_mem | k_ne)) (by repeat' (first | exact List.forall_mem_nil _ | (refine' List.forall_mem_cons.mpr ⟨?_, ?_⟩) | k_mem | k_ne)) (by repeat' (first | exact List.forall_mem_nil _ | (refine' List.forall_mem_cons.mpr ⟨?_, ?_⟩) | k_mem | k_ne)) ?_
    intro v h' tk' mods' F' N' hf hP
    rw [List.append_nil] at N'
    obtain ⟨t', p', k6', vs', nq', C', e', rfl, hpp, hC', hCe, hdr, he, rfl⟩ := hP
    obtain ⟨r1, r2⟩ := deed_peek C (Bf.cps.toList.drop p.toNat) size.toNat
    exact endB_of F' N' ⟨qa, vs', C', nq', p', k6', e', ⟨_, rfl⟩, hC', by omega, by rw [hCe, hdr]; exact r1, by rw [hCe]; exact r2, he.trans (deed_eof C _ size (by omega) e), h_x_qa, h_dx_qa, h_qa_fx, h_qa_fd, rfl⟩
  · obtain rfl : kind = 2 := by omega
    refine tells_use [] (tells_lpush w x dx qa fx fd sm h_x_dx h_x_qa h_x_fx h_x_fd h_dx_qa h_dx_fx h_dx_fd h_qa_fx h_qa_fd h_fx_fd y1 y2 y3 y4 y5 y6 x1 x2 x3 j1 j2 j3 j4 j5 j6 k1 k2 k3 k4 k5 k6 tb nq e vs C hC hCl Bf p hp hB b hb) (by decide) (by decide) (by k_asm) (by k_asm) (by k_asm) (by k_asm) (by k_asm) rfl True.intro (by repeat' (first | exact List.forall_mem_nil _ | (refine' List.forall_mem_cons.mpr ⟨?_, ?_⟩) | k_mem | k_ne)) (by repeat' (first | exact List.forall_mem_nil _ | (refine' List.forall_mem_cons.mpr ⟨?_, ?_⟩) | k_mem | k_ne)) (by repeat' (first | exact List.forall_mem_nil _ | (refine' List.forall_mem_cons.mpr ⟨?_, ?_⟩) | k_mem | k_ne)) ?_
    intro v h' tk' mods' F' N' hf hP
    rw [List.append_nil] at N'
    obtain ⟨qa', vs', nq', rfl, hC', d1, d2, d3, d4, rfl⟩ := hP
    exact endB_of F' N' ⟨qa', vs', b ++ C, nq', p, k6, e, rfl, hC', hp, by rw [List.append_assoc]; rfl, by rw [List.length_append, Nat.add_comm]; rfl, rfl, d1, d2, d3, d4, rfl⟩
  · obtain rfl : kind = 3 := by omega
    show wpAny _ _ (PySem.call (PySem.Value.ref 616) [PySem.Value.ref x]) _ _ _
    refine tells_use [] (tells_lread w x dx qa fx fd sm h_x_dx h_x_qa h_x_fx h_x_fd h_dx_qa h_dx_fx h_dx_fd h_qa_fx h_qa_fd h_fx_fd y1 y2 y3 y4 y5 y6 x1 x2 x3 j1 j2 j3 j4 j5 j6 k1 k2 k3 k4 k5 k6 909 nq e vs C hC hCl Bf p hp hB 1 (by omega) (by omega) [.ref x] (.inr ⟨rfl, rfl, rfl⟩)) (by decide) (by decide) (by k_asm) (by k_asm) (by k_asm) (by k_asm) (by k_asm) rfl True.intro (by repeat' (first | exact List.forall_mem_nil _ | (refine' List.forall_mem_cons.mpr ⟨?_, ?_⟩) | k_mem | k_ne)) (by repeat' (first | exact List.forall_mem_nil _ | (refine' List.forall_mem_cons.mpr ⟨?_, ?_⟩) | k_mem | k_ne)) (by repeat' (first | exact List.forall_mem_nil _ | (refine' List.forall_mem_cons.mpr ⟨?_, ?_⟩) | k_mem | k_ne)) ?_
    intro v h' tk' mods' F' N' hf hP
    rw [List.append_nil] at N'
    obtain ⟨t', p', k6', vs', nq', C', e', rfl, hpp, hC', hCe, hdr, he, rfl⟩ := hP
    obtain ⟨r1, r2⟩ := deed_read C (Bf.cps.toList.drop p.toNat) 1
    exact endB_of F' N' ⟨qa, vs', C', nq', p', k6', e', ⟨_, rfl⟩, hC', by omega, by rw [hCe, hdr]; exact r1, by rw [hCe]; exact r2, he, h_x_qa, h_dx_qa, h_qa_fx, h_qa_fd, rfl⟩
  · obtain rfl : kind = 4 := by omega
    show wpAny _ _ (PySem.call (PySem.Value.ref 624) [PySem.Value.ref x]) _ _ _
    refine tells_use [] (tells_lpeek w x dx qa fx fd sm h_x_dx h_x_qa h_x_fx h_x_fd h_dx_qa h_dx_fx h_dx_fd h_qa_fx h_qa_fd h_fx_fd y1 y2 y3 y4 y5 y6 x1 x2 x3 j1 j2 j3 j4 j5 j6 k1 k2 k3 k4 k5 k6 919 nq e vs C hC hCl Bf p hp hB 1 (by omega) (by omega) [.ref x] (.inr ⟨rfl, rfl, rfl⟩)) (by decide) (by decide) (by k_asm) (by k_asm) (by k_asm) (by k_asm) (by k_asm) rfl True.intro (by repeat' (first | exact List.forall_mem_nil _ | (refine' List.forall_mem_cons.mpr ⟨?_, ?_⟩) | k_mem | k_ne)) (by repeat' (first | exact List.forall_mem_nil _ | (refine' List.forall_mem_cons.mpr ⟨?_, ?_⟩) | k_mem | k_ne)) (by repeat' (first | exact List.forall_mem_nil _ | (refine' List.forall_mem_cons.mpr ⟨?_, ?_⟩) | k_mem | k_ne)) ?_
    intro v h' tk' mods' F' N' hf hP
    rw [List.append_nil] at N'
    obtain ⟨t', p', k6', vs', nq', C', e', rfl, hpp, hC', hCe, hdr, he, rfl⟩ := hP
    obtain ⟨r1, r2⟩ := deed_peek C (Bf.cps.toList.drop p.toNat) 1
    exact endB_of F' N' ⟨qa, vs', C', nq', p', k6', e', ⟨_, rfl⟩, hC', by omega, by rw [hCe, hdr]; exact r1, by rw [hCe]; exact r2, he.trans (deed_eof C _ 1 (by omega) e), h_x_qa, h_dx_qa, h_qa_fx, h_qa_fd, rfl⟩
end Mine
end

section
open PySem PySem.W PySem.Calls PyProof.Rows
set_option Elab.async false
set_option maxRecDepth 100000
set_option maxHeartbeats 4000000
namespace Mine
open Builtin Builtin.ObjectAttr
section
variable {w : World} {A : Around} {R : Result → Shared → Prop} {h : Heap} {g : Array GenState} {d : Drawn} {t : Nat} {os : OsState}
theorem sio_here (X : (hd.heap_39 w.params).In h) : Looks (model PySem.Challenge.rw_gr5003_01.row.prog w) h (Bind.madeHere "object.__new__" (.ref 569)) () := Looks.of_peek X (by kernel_rfl)
theorem sio_made (X : (hd.heap_39 w.params).In h) : Looks (model PySem.Challenge.rw_gr5003_01.row.prog w) h (Bind.madeBy (.ref 569)) none := Looks.of_peek X (by kernel_rfl)
theorem sio_isType (X : (hd.heap_39 w.params).In h) : Looks (model PySem.Challenge.rw_gr5003_01.row.prog w) h (isType (.ref 569)) true := Looks.of_peek X (by kernel_rfl)
theorem sio_inst (X : (hd.heap_39 w.params).In h) : Looks (model PySem.Challenge.rw_gr5003_01.row.prog w) h (isInstance (.ref 569) (.type "type")) true := Looks.of_peek X (by kernel_rfl)
theorem sio_self (X : (hd.heap_39 w.params).In h) : Looks (model PySem.Challenge.rw_gr5003_01.row.prog w) h (isSubtype (.ref 569) (.ref 569)) true := Looks.of_peek X (by kernel_rfl)
theorem sio_top (X : (hd.heap_39 w.params).In h) : Looks (model PySem.Challenge.rw_gr5003_01.row.prog w) h (isSubtype (.ref 569) (.type "object")) true := Looks.of_peek X (by kernel_rfl)
theorem sio_base (X : (hd.heap_39 w.params).In h) : Looks (model PySem.Challenge.rw_gr5003_01.row.prog w) h (Bind.staticBase (.ref 569)) (.type "object") := Looks.of_peek X (by kernel_rfl)
theorem obj_made (X : (hd.heap_39 w.params).In h) : Looks (model PySem.Challenge.rw_gr5003_01.row.prog w) h (Bind.madeBy (.type "object")) (some "object.__new__") := Looks.of_peek X (by kernel_rfl)
theorem sio_call (X : (hd.heap_39 w.params).In h) : Looks (model PySem.Challenge.rw_gr5003_01.row.prog w) h (specialOf (.ref 569) "__call__") (some (.builtin "type.__call__")) := Looks.of_peek X (by kernel_rfl)
theorem sio_mro (X : (hd.heap_39 w.params).In h) : Looks (model PySem.Challenge.rw_gr5003_01.row.prog w) h (mroOf (.ref 569)) [.ref 569, .ref 92, .ref 65, .type "object"] := Looks.of_peek X (by kernel_rfl)
def clsCalm (o : Option Obj) : Bool := match o with
  | some ⟨_, _, .cls cd, _⟩ => !cd.abstract && !cd.hasDel
  | _ => false
theorem clsCalm_of {K : Frag} {C : Addr} (X : K.In h) (e : clsCalm (K.lookup C) = true) : ∃ oc od cd sl, h.get? C = some ⟨oc, od, .cls cd, sl⟩ ∧ cd.abstract = false ∧ cd.hasDel = false := by
  unfold clsCalm at e
  split at e
  · rename_i oc od cd sl ho
    simp only [Bool.and_eq_true, Bool.not_eq_true'] at e
    exact ⟨oc, od, cd, sl, X _ _ ho, e.1, e.2⟩
  · cases e
theorem new_S (X : (hd.heap_39 w.params).In h) (hq : R (.ok (.ret (.ref (h.objs.size + 1)))) ⟨(h.push emptyDict).push (instObj 569 h.objs.size), g, d, t, os⟩) :
    codeAny (model PySem.Challenge.rw_gr5003_01.row.prog w) A (.call (.builtin "object.__new__") ⟨[.ref 569], []⟩) R ⟨h, g, d, t, os⟩ := by
  obtain ⟨oc, od, cd, sl, hC, e1, e2⟩ := clsCalm_of (C := 569) X (by kernel_rfl)
  have F := PySem.F.objNew
  have typ := sio_isType X
  have here := sio_here X
  refine codeAny_call_builtin_code (Code.quiet_builtin _ F.quiet) ?_
  simp only [checkBuiltinCall, F.kind, F.split, F.row]
  have args : Bind.checkArgs "object.__new__" ⟨.hand, "object.__new__", "__new__", .cls, []⟩ ⟨[.ref 569], []⟩ = pure () := by kernel_rfl
  rw [args]
  have top := sio_top X
  have base := sio_base X
  have made := obj_made X
  repeat (first | simp only [bne_self_eq_false, Bool.false_eq_true, if_false, Bool.not_true] | lk)
  refine codeAny_builtin F.entry ?_
  unfold Builtin.«object.__new__»
  repeat (first | simp only [bne_self_eq_false, Bool.false_eq_true, if_false, Bool.not_true, e1] | lk)
  have hC2 : ((h.push emptyDict).push (instObj 569 h.objs.size)).get? 569 = some ⟨oc, od, .cls cd, sl⟩ := Heap.get?_push_of_some _ (Heap.get?_push_of_some _ hC)
  refine nd_load hC2 ?_
  repeat (first | simp only [e2, Bool.false_eq_true, if_false] | lk)
  show R _ _
  rw [Heap.size_push]
  exact hq
end
end Mine
end

section
open PySem PySem.W PySem.Calls PyProof.Rows
set_option Elab.async false
set_option maxRecDepth 100000
set_option maxHeartbeats 4000000
namespace Mine
theorem tells_of_body2 {w : World} {f : Addr} {DP UN : Nat} {args : List Value} {Post : Value → Led → Prop}
    {name qual : Str} {params : Arguments} {body : List Stmt} {scope : Scope} {dV kV doc pm cdv ct oc : Value} {an od : Option Addr} {osl : Array (Option Value)} (o1 o2 : Obj) (binds : Addr → Addr → List (Str × Value))
    (ho : (hd.heap_39 w.params).lookup f = some ⟨oc, od, .func (fnOf name qual params body scope dV kV doc pm an cdv ct), osl⟩)
    (hcd : codeIn (hd.heap_39 w.params) cdv qual = true) (hroom : DP < recursionLimit)
    (hbind : bindArgs (fnOf name qual params body scope dV kV doc pm an cdv ct) ⟨args, []⟩ = (alloc o1 >>= fun C => alloc o2 >>= fun D => pure (binds C D)))
    (hloc : ∀ C D, ∀ y ∈ binds C D, scope.names.lookup y.1 = some .local)
    (hcell : ∀ x ∈ scope.names, x.2 ≠ .cell) (hco : scope.isCoroutine = false) (hgen : scope.isGenerator = false) (hk : scope.kind = .function)
    (hbody : ∀ (mean : ExcName → Option Value) (mg mb : Str → Option Value) (outer : List Env) (base g : Heap) (L' C D : Addr) (s : Shared) (A₀ : Around),
      Below A₀ base outer g → Fr g L' s.heap (fun y => (binds C D).reverse.lookup y) → (hd.heap_39 w.params).In g → News g L' s.heap [] → Top hd.view_39 LOO mean mg mb g →
      wpAny (model PySem.Challenge.rw_gr5003_01.row.prog w) (ktrTop (DP + 1) (UN + 3) none qual scope L' f cdv [] outer) (execs body (envX qual scope L' f cdv []))
        (fun fl s' => EndB g L' s Post (match fl with | .ret v => v | _ => .none) s') (fun _ _ => False) s) :
    Tells w f DP UN (fun _ => True) [] args Post := by
  intro mean mg mb dp un gd cn cs a ccd cl outer A₀ base h₀ L m s Q E hdp hun B F X N T hck hpre ret
  refine wpAny_weaken (A := ktrTop DP UN none cn cs L a ccd cl outer) ?_ rfl hdp rfl rfl hun
  refine wpAny_call ?_
  have X' : (hd.heap_39 w.params).In s.heap := X.keeps F.keep
  obtain ⟨FG, BG, st, lv⟩ := groundX (R := fun r s' => match r with | .ok (.ret v) => Q v s' | .ok _ => False | .error e => E e s') (A := ktrTop DP UN none cn cs L a ccd cl outer) (env := envX cn cs L a ccd cl) B F N rfl rfl hck
  refine codeAny_call_function (fd := fnOf name qual params body scope dV kV doc pm an cdv ct) (body := body) hroom (X' _ _ ho) rfl hco hgen rfl (codeRec_of X' hcd) ?_
  rw [hbind]
  refine wpAny_bind (wpAny_alloc (wpAny_bind (wpAny_alloc (wpAny_pure ?_))))
  have k2 : ∀ b o, s.heap.get? b = some o → ((s.heap.push o1).push o2).get? b = some o := fun b o e => Heap.get?_push_of_some _ (Heap.get?_push_of_some _ e)
  refine wpAny_newFunctionEnv hcell (hloc _ _) (fun h₁ hns hsb => ⟨((T.nolimit.keeps F.keep).keeps k2).fresh _ hsb, codeAny_func ?_⟩) hk
  have hk₁ : ∀ b o, s.heap.get? b = some o → h₁.get? b = some o := fun b o e => hsb.extBut b o (Nat.ne_of_lt (Heap.lt_size (k2 b o e))) (Heap.get?_push_of_some _ (k2 b o e))
  have key := hbody mean mg mb (envX cn cs L a ccd cl :: outer) base (hideAll s.heap []) ((s.heap.push o1).push o2).objs.size s.heap.objs.size (s.heap.push o1).objs.size { s with heap := h₁, toks := s.toks + (binds s.heap.objs.size (s.heap.push o1).objs.size).length } _ BG
    ⟨hns, fun b o e => hk₁ b o e, by show s.heap.objs.size ≤ _; rw [Heap.size_push, Heap.size_push]; omega⟩ (X.keeps st) (fun p hp => nomatch hp) (T.keeps st)
  refine wpAny_mono key (fun fl s' hl => ?_) fun _ _ x => x.elim
  obtain ⟨h', tk', m', mods', rfl, F', N', hP⟩ := hl
  refine lv _ _ ⟨_, m', mods', F', N', fun FF NN => ?_⟩
  refine ret _ _ _ mods' FF NN (fun b o e _ => F'.keep b o e) (fun p hp => .inr ?_) hP
  exact (N' p hp).2.2
end Mine
end

section
open PySem PySem.W PySem.Calls PyProof.Rows
set_option Elab.async false
set_option maxRecDepth 100000
set_option maxHeartbeats 4000000
namespace Mine

set_option rowWalk.seconds 0

local macro_rules | `(tactic| walk_at "m_go") => `(tactic| repeat' (
  (fail_if_success (with_reducible show PySem.wpAny _ _ (PySem.call (PySem.Value.ref _) _) _ _ _))
  (fail_if_success (with_reducible show PySem.wpAny _ _ (PySem.exec (PySem.Stmt.While _ _ _ _) _) _ _ _))
  (fail_if_success (with_reducible show Mine.EndB _ _ _ _ _ _))
  (first | (k_unfold; (try dsimp only)) | walk1 | (dsimp only; walk1) | fail "no step")))

local macro_rules | `(tactic| walk_at "truthy ref") => `(tactic| (k_here; (with_reducible show PySem.wpAny _ _ (PySem.truthy (PySem.Value.ref _)) _ _ _); k_dflt (refine' my_truthy ?N ?m ?z ?_; (case N => k_asm); (case m => k_mem); (case z => first | omega | (simp only [List.length_cons]; omega)); k_whole); (intro _); (try simp only [List.isEmpty_cons, List.isEmpty_nil, Bool.not_false, Bool.not_true])))
local macro_rules | `(tactic| walk_at "call builtin:list.pop") => `(tactic| (k_here; (with_reducible show PySem.wpAny _ _ (PySem.call (PySem.Value.builtin _) [PySem.Value.ref _, PySem.Value.int _ _]) _ _ _); k_dflt (refine' my_pop0 ?F ?N ?U ?z ?_; (case F => k_asm); (case N => k_asm); (case U => k_upd); (case z => omega)); kl_rest))
local macro_rules | `(tactic| walk_at "call builtin:len") => `(tactic| (k_here; (with_reducible show PySem.wpAny _ _ (PySem.call (PySem.Value.builtin "len") [PySem.Value.ref _]) _ _ _); k_dflt (refine' my_len ?N ?m ?z ?_; (case N => k_asm); (case m => k_mem); (case z => first | omega | (simp only [List.length_cons]; omega)); k_whole); (intro _ _)))

local macro_rules | `(tactic| walk_at "inplaceOp Add str str") => `(tactic| (k_here; (with_reducible show PySem.wpAny _ _ (PySem.inplaceOp PySem.Operator.Add (PySem.Value.str _ _) (PySem.Value.str _ _)) _ _ _); k_dflt (refine' my_iadd_txt ?z ?_; (case z => first | omega | (simp only [List.length_cons, List.length_append, List.length_take, List.length_drop, List.length_nil]; omega)); k_whole); (intro _ _)))
local macro_rules | `(tactic| walk_at "binaryOp Add str str") => `(tactic| (k_here; (with_reducible show PySem.wpAny _ _ (PySem.binaryOp PySem.Operator.Add (PySem.Value.str _ _) (PySem.Value.str _ _)) _ _ _); k_dflt (refine' my_add_txt ?z ?_; (case z => first | omega | (simp only [List.length_cons, List.length_append, List.length_take, List.length_drop, List.length_nil]; omega)); k_whole); (intro _ _)))
local macro_rules | `(tactic| walk_at "subscriptTail Attribute") => `(tactic| (k_here; (with_reducible show PySem.wpAny _ _ (subscriptTail _ _ (PySem.Value.ref _) (PySem.Value.int _ _)) _ _ _); k_dflt (refine' my_item ?N ?m ?a ?b ?c ?_; (case N => k_asm); (case m => k_mem); (case a => omega); (case b => omega); (case c => k_asm))))

local macro_rules | `(tactic| walk_at "call builtin:list.extend") => `(tactic| (k_here; (with_reducible show PySem.wpAny _ _ (PySem.call (PySem.Value.builtin _) [PySem.Value.ref _, PySem.Value.str _ _]) _ _ _); k_dflt (refine' my_extend ?hh ?F ?N ?m ?z ?_; (case hh => exact rfl); (case F => k_asm); (case N => k_asm); (case m => k_mem); (case z => omega)); (intro h' us n' tk F' hus hN); (have N' := hN _ (by k_upd)); clear hN; (try k_sweep)))

local macro_rules | `(tactic| walk_at "call builtin:list.extend") => `(tactic| (k_here; (with_reducible show PySem.wpAny _ _ (PySem.call (PySem.Value.builtin _) [PySem.Value.ref _, PySem.Value.ref _]) _ _ _); k_dflt (refine' my_extend_list ?F ?N ?m ?b ?z ?_; (case F => k_asm); (case N => k_asm); (case m => k_mem); (case b => k_mem); (case z => omega)); (intro h' n' F' hN); (have N' := hN _ (by k_upd)); clear hN; (try k_sweep)))
local macro_rules | `(tactic| walk_at "call type:list") => `(tactic| (k_here; (with_reducible show PySem.wpAny _ _ (PySem.call (PySem.Value.type _) [PySem.Value.str _ _]) _ _ _); k_dflt (refine' my_list_str ?hh ?F ?N ?z ?_; (case hh => exact rfl); (case F => k_asm); (case N => k_asm); (case z => omega)); (intro D h' us n' tk F' hus N' l1); (have hul := Chars.length hus); (try k_lt l1); (try k_sweep)))

local macro_rules | `(tactic| walk_at "subscriptTail Name Slice str ref") => `(tactic| (k_here; (with_reducible show PySem.wpAny _ _ (subscriptTail _ (PySem.Expr.Slice none (some _) none _) (PySem.Value.str (txt _) _) _) _ _ _); (with_reducible rename Fr _ _ _ _ => F'); (with_reducible rename News _ _ _ _ => N'); (refine my_slice_to (s := ⟨_, _, _, _, _⟩) F' N' (by omega) (by first | omega | (simp only [List.length_take, List.length_drop]; omega)) ?_); (intro _ _ _ _ _)))
local macro_rules | `(tactic| walk_at "subscriptTail Name Slice str ref") => `(tactic| (k_here; (with_reducible show PySem.wpAny _ _ (subscriptTail _ (PySem.Expr.Slice (some _) none none _) (PySem.Value.str (txt _) _) _) _ _ _); (with_reducible rename Fr _ _ _ _ => F'); (with_reducible rename News _ _ _ _ => N'); (refine my_slice_from (s := ⟨_, _, _, _, _⟩) F' N' (by omega) (by first | omega | (simp only [List.length_take, List.length_drop]; omega)) ?_); (intro _ _ _ _ _)))
local macro_rules | `(tactic| walk_at "call builtin:len") => `(tactic| (k_here; (with_reducible show PySem.wpAny _ _ (PySem.call (PySem.Value.builtin "len") [PySem.Value.str (txt _) _]) _ _ _); (refine my_len_txt (by first | omega | (simp only [List.length_take, List.length_drop]; omega)) ?_); (intro _ _)))

theorem tells_new62 (w : World) (l : List Nat) (t : Tok) : Tells w 62 370 70 (fun _ => True) [] [.ref 569, .str (txt l) t]
   (fun v mods' => ∃ fx fd, v = .ref fx ∧ @LT.lt Nat _ fd fx ∧ mods' = [(fx, instObj 569 fd), (fd, dictOf [] 0)]) := by
  have kf : (hd.heap_39 w.params).In = (hd.heap_39 w.params).In ∧ PySem.Challenge.rw_gr5003_01 = PySem.Challenge.rw_gr5003_01 := ⟨rfl, rfl⟩
  revert kf
  w_top off
  k_fill
  intro _
  refine' tells_of_body2 ({ cls := .type "tuple", data := .seq #[.str (txt l) t] } : Obj) ({ cls := .type "dict", data := .dict #[] } : Obj) (fun C D => [(Str.ofString "cls", .ref 569), (Str.ofString "args", .ref C), (Str.ofString "kwargs", .ref D)]) ?ho ?hcd (by decide) ?hb ?hl ?hc ?h1 ?h2 ?h3 ?body
  case ho => k_dflt k_is
  case hcd => k_dflt k_is
  case hb => kernel_rfl
  case hl => exact fun _ _ => locs rfl
  case hc => decide
  case h1 => rfl
  case h2 => rfl
  case h3 => rfl
  intro mean mg mb outer base g L' C D s A₀ B F X N T
  try dsimp only
  show wpAny _ _ _ _ _ _
  k_fold
  walk_at "m_go"
  refine wpAny_call (new_S (X.keeps F.keep) ?_)
  have N2 := (N.push F emptyDict).push (F.push emptyDict) (instObj 569 s.heap.objs.size)
  rw [Heap.size_push] at N2
  exact endB_of ((F.push _).push _) N2 ⟨_, _, rfl, Nat.lt_succ_self _, rfl⟩
end Mine
end

section
open PySem PySem.W PySem.Calls PyProof.Rows
set_option Elab.async false
set_option maxRecDepth 100000
set_option maxHeartbeats 4000000
namespace Mine

set_option rowWalk.seconds 0

local macro_rules | `(tactic| walk_at "m_go") => `(tactic| repeat' (
  (fail_if_success (with_reducible show PySem.wpAny _ _ (PySem.call (PySem.Value.ref _) _) _ _ _))
  (fail_if_success (with_reducible show PySem.wpAny _ _ (PySem.exec (PySem.Stmt.While _ _ _ _) _) _ _ _))
  (fail_if_success (with_reducible show Mine.EndB _ _ _ _ _ _))
  (first | (k_unfold; (try dsimp only)) | walk1 | (dsimp only; walk1) | fail "no step")))

local macro_rules | `(tactic| walk_at "truthy ref") => `(tactic| (k_here; (with_reducible show PySem.wpAny _ _ (PySem.truthy (PySem.Value.ref _)) _ _ _); k_dflt (refine' my_truthy ?N ?m ?z ?_; (case N => k_asm); (case m => k_mem); (case z => first | omega | (simp only [List.length_cons]; omega)); k_whole); (intro _); (try simp only [List.isEmpty_cons, List.isEmpty_nil, Bool.not_false, Bool.not_true])))
local macro_rules | `(tactic| walk_at "call builtin:list.pop") => `(tactic| (k_here; (with_reducible show PySem.wpAny _ _ (PySem.call (PySem.Value.builtin _) [PySem.Value.ref _, PySem.Value.int _ _]) _ _ _); k_dflt (refine' my_pop0 ?F ?N ?U ?z ?_; (case F => k_asm); (case N => k_asm); (case U => k_upd); (case z => omega)); kl_rest))
local macro_rules | `(tactic| walk_at "call builtin:len") => `(tactic| (k_here; (with_reducible show PySem.wpAny _ _ (PySem.call (PySem.Value.builtin "len") [PySem.Value.ref _]) _ _ _); k_dflt (refine' my_len ?N ?m ?z ?_; (case N => k_asm); (case m => k_mem); (case z => first | omega | (simp only [List.length_cons]; omega)); k_whole); (intro _ _)))

local macro_rules | `(tactic| walk_at "inplaceOp Add str str") => `(tactic| (k_here; (with_reducible show PySem.wpAny _ _ (PySem.inplaceOp PySem.Operator.Add (PySem.Value.str _ _) (PySem.Value.str _ _)) _ _ _); k_dflt (refine' my_iadd_txt ?z ?_; (case z => first | omega | (simp only [List.length_cons, List.length_append, List.length_take, List.length_drop, List.length_nil]; omega)); k_whole); (intro _ _)))
local macro_rules | `(tactic| walk_at "binaryOp Add str str") => `(tactic| (k_here; (with_reducible show PySem.wpAny _ _ (PySem.binaryOp PySem.Operator.Add (PySem.Value.str _ _) (PySem.Value.str _ _)) _ _ _); k_dflt (refine' my_add_txt ?z ?_; (case z => first | omega | (simp only [List.length_cons, List.length_append, List.length_take, List.length_drop, List.length_nil]; omega)); k_whole); (intro _ _)))
local macro_rules | `(tactic| walk_at "subscriptTail Attribute") => `(tactic| (k_here; (with_reducible show PySem.wpAny _ _ (subscriptTail _ _ (PySem.Value.ref _) (PySem.Value.int _ _)) _ _ _); k_dflt (refine' my_item ?N ?m ?a ?b ?c ?_; (case N => k_asm); (case m => k_mem); (case a => omega); (case b => omega); (case c => k_asm))))

local macro_rules | `(tactic| walk_at "call builtin:list.extend") => `(tactic| (k_here; (with_reducible show PySem.wpAny _ _ (PySem.call (PySem.Value.builtin _) [PySem.Value.ref _, PySem.Value.str _ _]) _ _ _); k_dflt (refine' my_extend ?hh ?F ?N ?m ?z ?_; (case hh => exact rfl); (case F => k_asm); (case N => k_asm); (case m => k_mem); (case z => omega)); (intro h' us n' tk F' hus hN); (have N' := hN _ (by k_upd)); clear hN; (try k_sweep)))

local macro_rules | `(tactic| walk_at "call builtin:list.extend") => `(tactic| (k_here; (with_reducible show PySem.wpAny _ _ (PySem.call (PySem.Value.builtin _) [PySem.Value.ref _, PySem.Value.ref _]) _ _ _); k_dflt (refine' my_extend_list ?F ?N ?m ?b ?z ?_; (case F => k_asm); (case N => k_asm); (case m => k_mem); (case b => k_mem); (case z => omega)); (intro h' n' F' hN); (have N' := hN _ (by k_upd)); clear hN; (try k_sweep)))
local macro_rules | `(tactic| walk_at "call type:list") => `(tactic| (k_here; (with_reducible show PySem.wpAny _ _ (PySem.call (PySem.Value.type _) [PySem.Value.str _ _]) _ _ _); k_dflt (refine' my_list_str ?hh ?F ?N ?z ?_; (case hh => exact rfl); (case F => k_asm); (case N => k_asm); (case z => omega)); (intro D h' us n' tk F' hus N' l1); (have hul := Chars.length hus); (try k_lt l1); (try k_sweep)))

local macro_rules | `(tactic| walk_at "subscriptTail Name Slice str ref") => `(tactic| (k_here; (with_reducible show PySem.wpAny _ _ (subscriptTail _ (PySem.Expr.Slice none (some _) none _) (PySem.Value.str (txt _) _) _) _ _ _); (with_reducible rename Fr _ _ _ _ => F'); (with_reducible rename News _ _ _ _ => N'); (refine my_slice_to (s := ⟨_, _, _, _, _⟩) F' N' (by omega) (by first | omega | (simp only [List.length_take, List.length_drop]; omega)) ?_); (intro _ _ _ _ _)))
local macro_rules | `(tactic| walk_at "subscriptTail Name Slice str ref") => `(tactic| (k_here; (with_reducible show PySem.wpAny _ _ (subscriptTail _ (PySem.Expr.Slice (some _) none none _) (PySem.Value.str (txt _) _) _) _ _ _); (with_reducible rename Fr _ _ _ _ => F'); (with_reducible rename News _ _ _ _ => N'); (refine my_slice_from (s := ⟨_, _, _, _, _⟩) F' N' (by omega) (by first | omega | (simp only [List.length_take, List.length_drop]; omega)) ?_); (intro _ _ _ _ _)))
local macro_rules | `(tactic| walk_at "call builtin:len") => `(tactic| (k_here; (with_reducible show PySem.wpAny _ _ (PySem.call (PySem.Value.builtin "len") [PySem.Value.str (txt _) _]) _ _ _); (refine my_len_txt (by first | omega | (simp only [List.length_take, List.length_drop]; omega)) ?_); (intro _ _)))

theorem tells_sinit (w : World) (fx fd : Addr) (hne : @Ne Nat fx fd) (l : List Nat) (t : Tok) : Tells w 339 370 70 (fun _ => True) [(fx, instObj 569 fd), (fd, dictOf [] 0)] [.ref fx, .str (txt l) t]
   (fun v mods' => v = .none ∧ ∃ x1 x2 x3 k1 k2 k3 k4 k5 k6, mods' = [(fx, instObj 569 fd), (fd, dictOf [⟨x1, .str (Str.ofString "_StringIO__newline") k1, .str (Str.ofString "\n") k2⟩, ⟨x2, .str (Str.ofString "_StringIO__buf") k3, .str (txt l) k4⟩, ⟨x3, .str (Str.ofString "_StringIO__pos") k5, .int 0 k6⟩] 3)]) := by
  have kf : (hd.heap_39 w.params).In = (hd.heap_39 w.params).In ∧ PySem.Challenge.rw_gr5003_01 = PySem.Challenge.rw_gr5003_01 := ⟨rfl, rfl⟩
  revert kf
  w_top off
  k_fill
  intro _
  refine' tells_of_body (binds := [(Str.ofString "self", .ref fx), (Str.ofString "initial_value", .str (txt l) t), (Str.ofString "newline", .str (Str.ofString "\n") 579)]) ?ho ?hcd (by decide) (fun _ _ _ h => h) ?hb ?hl ?hc ?h1 ?h2 ?h3 ?body
  case ho => k_dflt k_is
  case hcd => k_dflt k_is
  case hb => intro s X; first | exact BindsTo.of_eq rfl | exact binds_K X rfl (by k_dflt k_is) rfl rfl rfl
  case hl => exact locs rfl
  case hc => decide
  case h1 => rfl
  case h2 => rfl
  case h3 => rfl
  intro mean mg mb outer base g L' s A₀ B F X N T PR LT
  try dsimp only
  k_fold
  have LT2 := allLt_of LT
  simp only [AllLt, and_true] at LT2

  k_steps
  exact endB_of (by assumption) (by assumption) ⟨rfl, _, _, _, _, _, _, _, _, _, rfl⟩
end Mine
end

section
open PySem PySem.W PySem.Calls PyProof.Rows
set_option Elab.async false
set_option maxRecDepth 100000
set_option maxHeartbeats 4000000
namespace Mine

set_option rowWalk.seconds 0
open Builtin Builtin.ObjectAttr

local macro_rules | `(tactic| walk_at "m_go") => `(tactic| repeat' (
  (fail_if_success (with_reducible show PySem.wpAny _ _ (PySem.call (PySem.Value.ref _) _) _ _ _))
  (fail_if_success (with_reducible show PySem.wpAny _ _ (PySem.exec (PySem.Stmt.While _ _ _ _) _) _ _ _))
  (fail_if_success (with_reducible show Mine.EndB _ _ _ _ _ _))
  (first | (k_unfold; (try dsimp only)) | walk1 | (dsimp only; walk1) | fail "no step")))

local macro_rules | `(tactic| walk_at "truthy ref") => `(tactic| (k_here; (with_reducible show PySem.wpAny _ _ (PySem.truthy (PySem.Value.ref _)) _ _ _); k_dflt (refine' my_truthy ?N ?m ?z ?_; (case N => k_asm); (case m => k_mem); (case z => first | omega | (simp only [List.length_cons]; omega)); k_whole); (intro _); (try simp only [List.isEmpty_cons, List.isEmpty_nil, Bool.not_false, Bool.not_true])))
local macro_rules | `(tactic| walk_at "call builtin:list.pop") => `(tactic| (k_here; (with_reducible show PySem.wpAny _ _ (PySem.call (PySem.Value.builtin _) [PySem.Value.ref _, PySem.Value.int _ _]) _ _ _); k_dflt (refine' my_pop0 ?F ?N ?U ?z ?_; (case F => k_asm); (case N => k_asm); (case U => k_upd); (case z => omega)); kl_rest))
local macro_rules | `(tactic| walk_at "call builtin:len") => `(tactic| (k_here; (with_reducible show PySem.wpAny _ _ (PySem.call (PySem.Value.builtin "len") [PySem.Value.ref _]) _ _ _); k_dflt (refine' my_len ?N ?m ?z ?_; (case N => k_asm); (case m => k_mem); (case z => first | omega | (simp only [List.length_cons]; omega)); k_whole); (intro _ _)))

local macro_rules | `(tactic| walk_at "inplaceOp Add str str") => `(tactic| (k_here; (with_reducible show PySem.wpAny _ _ (PySem.inplaceOp PySem.Operator.Add (PySem.Value.str _ _) (PySem.Value.str _ _)) _ _ _); k_dflt (refine' my_iadd_txt ?z ?_; (case z => first | omega | (simp only [List.length_cons, List.length_append, List.length_take, List.length_drop, List.length_nil]; omega)); k_whole); (intro _ _)))
local macro_rules | `(tactic| walk_at "binaryOp Add str str") => `(tactic| (k_here; (with_reducible show PySem.wpAny _ _ (PySem.binaryOp PySem.Operator.Add (PySem.Value.str _ _) (PySem.Value.str _ _)) _ _ _); k_dflt (refine' my_add_txt ?z ?_; (case z => first | omega | (simp only [List.length_cons, List.length_append, List.length_take, List.length_drop, List.length_nil]; omega)); k_whole); (intro _ _)))
local macro_rules | `(tactic| walk_at "subscriptTail Attribute") => `(tactic| (k_here; (with_reducible show PySem.wpAny _ _ (subscriptTail _ _ (PySem.Value.ref _) (PySem.Value.int _ _)) _ _ _); k_dflt (refine' my_item ?N ?m ?a ?b ?c ?_; (case N => k_asm); (case m => k_mem); (case a => omega); (case b => omega); (case c => k_asm))))

local macro_rules | `(tactic| walk_at "call builtin:list.extend") => `(tactic| (k_here; (with_reducible show PySem.wpAny _ _ (PySem.call (PySem.Value.builtin _) [PySem.Value.ref _, PySem.Value.str _ _]) _ _ _); k_dflt (refine' my_extend ?hh ?F ?N ?m ?z ?_; (case hh => exact rfl); (case F => k_asm); (case N => k_asm); (case m => k_mem); (case z => omega)); (intro h' us n' tk F' hus hN); (have N' := hN _ (by k_upd)); clear hN; (try k_sweep)))

local macro_rules | `(tactic| walk_at "call builtin:list.extend") => `(tactic| (k_here; (with_reducible show PySem.wpAny _ _ (PySem.call (PySem.Value.builtin _) [PySem.Value.ref _, PySem.Value.ref _]) _ _ _); k_dflt (refine' my_extend_list ?F ?N ?m ?b ?z ?_; (case F => k_asm); (case N => k_asm); (case m => k_mem); (case b => k_mem); (case z => omega)); (intro h' n' F' hN); (have N' := hN _ (by k_upd)); clear hN; (try k_sweep)))
local macro_rules | `(tactic| walk_at "call type:list") => `(tactic| (k_here; (with_reducible show PySem.wpAny _ _ (PySem.call (PySem.Value.type _) [PySem.Value.str _ _]) _ _ _); k_dflt (refine' my_list_str ?hh ?F ?N ?z ?_; (case hh => exact rfl); (case F => k_asm); (case N => k_asm); (case z => omega)); (intro D h' us n' tk F' hus N' l1); (have hul := Chars.length hus); (try k_lt l1); (try k_sweep)))

local macro_rules | `(tactic| walk_at "subscriptTail Name Slice str ref") => `(tactic| (k_here; (with_reducible show PySem.wpAny _ _ (subscriptTail _ (PySem.Expr.Slice none (some _) none _) (PySem.Value.str (txt _) _) _) _ _ _); (with_reducible rename Fr _ _ _ _ => F'); (with_reducible rename News _ _ _ _ => N'); (refine my_slice_to (s := ⟨_, _, _, _, _⟩) F' N' (by omega) (by first | omega | (simp only [List.length_take, List.length_drop]; omega)) ?_); (intro _ _ _ _ _)))
local macro_rules | `(tactic| walk_at "subscriptTail Name Slice str ref") => `(tactic| (k_here; (with_reducible show PySem.wpAny _ _ (subscriptTail _ (PySem.Expr.Slice (some _) none none _) (PySem.Value.str (txt _) _) _) _ _ _); (with_reducible rename Fr _ _ _ _ => F'); (with_reducible rename News _ _ _ _ => N'); (refine my_slice_from (s := ⟨_, _, _, _, _⟩) F' N' (by omega) (by first | omega | (simp only [List.length_take, List.length_drop]; omega)) ?_); (intro _ _ _ _ _)))
local macro_rules | `(tactic| walk_at "call builtin:len") => `(tactic| (k_here; (with_reducible show PySem.wpAny _ _ (PySem.call (PySem.Value.builtin "len") [PySem.Value.str (txt _) _]) _ _ _); (refine my_len_txt (by first | omega | (simp only [List.length_take, List.length_drop]; omega)) ?_); (intro _ _)))

theorem under_tc {dp un : Nat} {gd : Option (List Code)} {cn : Str} {cs : Scope} {L a : Addr} {ccd : Value} {cl : List (Str × Addr)} {outer : List Env} {C : Addr} {rest : List Value} :
    (ktrTop dp un gd cn cs L a ccd cl outer).under (.builtin "type.__call__" ⟨.ref C :: rest, []⟩) = ktrTop (dp + 1) (un + 1) gd cn cs L a ccd cl outer := by
  simp only [Around.under]
  congr 1
theorem tells_newSIO (w : World) (l : List Nat) (t : Tok) : Tells w 569 360 50 (fun _ => True) [] [.str (txt l) t]
   (fun v mods' => ∃ fx fd x1 x2 x3 k1 k2 k3 k4 k5 k6, v = .ref fx ∧ @Ne Nat fx fd ∧ mods' = [(fx, instObj 569 fd), (fd, dictOf [⟨x1, .str (Str.ofString "_StringIO__newline") k1, .str (Str.ofString "\n") k2⟩, ⟨x2, .str (Str.ofString "_StringIO__buf") k3, .str (txt l) k4⟩, ⟨x3, .str (Str.ofString "_StringIO__pos") k5, .int 0 k6⟩] 3)]) := by
  intro mean mg mb dp un gd cn cs a ccd cl outer A₀ base h₀ L m s Q E hdp hun B F X N T hck hpre ret
  have kf : (hd.heap_39 w.params).In = (hd.heap_39 w.params).In ∧ PySem.Challenge.rw_gr5003_01 = PySem.Challenge.rw_gr5003_01 := ⟨rfl, rfl⟩
  revert kf
  w_top off
  k_fill
  intro _
  refine wpAny_weaken (A := ktrTop 360 50 none cn cs L a ccd cl outer) ?_ rfl hdp rfl rfl hun
  refine wpAny_call ?_
  have X' : (hd.heap_39 w.params).In s.heap := X.keeps F.keep
  obtain ⟨oc, od, cd, sl, hC, e1, e2⟩ := clsCalm_of (C := 569) X' (by kernel_rfl)
  have call := sio_call X'
  have typ := sio_inst X'
  have made := sio_made X'
  have hm := sio_mro X'
  refine codeAny_of_tree ?_
  show wpAny _ _ (callAny (.ref 569) _) _ _ _
  refine nd_load hC ?_
  show wpAny _ _ (callAny.viaDunder (.ref 569) _) _ _ _
  unfold callAny.viaDunder
  refine wpAny_bind (call.at ?_)
  dsimp only
  rw [tc_bind]
  refine wpAny_bind (wpAny_pure (wpAny_bind (wpAny_pure ?_)))
  refine wpAny_pure (a := Fin.again (.call (.builtin "type.__call__") ⟨.ref 569 :: [.str (txt l) t], []⟩)) (And.intro rfl ?_)
  refine codeAny_call_builtin_at (Code.quiet_builtin _ (by decide +kernel)) entry_typeCall (check_slot tc_kind tc_split typ (tc_args _ _ _) ?_)
  unfold Builtin.«type.__call__»
  rw [under_tc]
  repeat (
    (fail_if_success (with_reducible show wpAny _ _ (PySem.getAttr _ _ _) _ _ _))
    (first | simp only [List.isEmpty_cons, Bool.false_eq_true, if_false] | lk))
  k_dflt (refine' cls_sm ?k1 ?k2 ?k3 ?k4 ?k5 ?k6 ?k7 ?_; (case k1 => k_asm); (case k2 => k_asm); (case k3 => k_is); (case k4 => k_is); (case k5 => k_is); (case k6 => k_is); (case k7 => k_handed); k_whole)
  refine wpAny_bind (wpAny_holding ?_)
  refine (tells_new62 w l t) mean mg mb _ _ _ _ _ _ _ _ _ _ _ h₀ L m _ _ _ (by decide) (by decide) B F X N T hck True.intro ?_
  intro v h1 tk1 mods1 F1 N1 K1 Fre1 hP
  obtain ⟨fx, fd, rfl, hlt, rfl⟩ := hP
  have X1 : (hd.heap_39 w.params).In h1 := X.keeps F1.keep
  have hne : @Ne Nat fx fd := Nat.ne_of_gt hlt
  have I1 : InstAt h1 fx (instObj 569 fd) 569 (some (dictOf [] 0)) := by k_inst
  unfold isInstance
  refine wpAny_bind (wpAny_bind (I1.type.here ((sio_self X1).here ?_)))
  simp only [Bool.not_true, Bool.false_eq_true, if_false]
  refine wpAny_bind (wpAny_holding ?_)
  k_dflt (refine' special_fn X1 I1 ?k1 ?k2 ?_; (case k1 => k_is); (case k2 => k_is); k_whole)
  refine (tells_sinit w fx fd hne l t) mean mg mb _ _ _ _ _ _ _ _ _ _ _ h₀ L m _ _ _ (by decide) (by decide) B F1 X N1 T hck True.intro ?_
  intro v2 h2 tk2 mods2 F2 N2 K2 Fre2 hP2
  obtain ⟨rfl, x1, x2, x3, k1, k2, k3, k4, k5, k6, rfl⟩ := hP2
  refine wpAny_pure ?_
  exact ret (.ref fx) h2 tk2 _ F2 N2 (kept_made K1 Fre1 K2) (fresh_made K1 Fre1 Fre2) ⟨fx, fd, x1, x2, x3, k1, k2, k3, k4, k5, k6, rfl, hne, rfl⟩
end Mine
end

section
open PySem PySem.W PySem.Calls PyProof.Rows
set_option Elab.async false
set_option maxRecDepth 100000
set_option maxHeartbeats 4000000
namespace Mine
theorem ha_kind : builtinKind "hasattr" = none := by decide +kernel
theorem ha_plain : plainId "hasattr" = true := by decide +kernel
theorem ha_entry : entryFor table "hasattr" = some Builtin.«hasattr» := entryFor_of_fast (by kernel_rfl)
theorem ha_args (a b : Value) : argsOk "hasattr" ⟨[a, b], []⟩ := by unfold argsOk; kernel_rfl
section
variable {prog : Program} {w : World} {A : Around} {E : Value → Shared → Prop} {s : Shared}
theorem hasattr_gen {v : Value} {T id : String} {Bi : Builtin} {u : Tok} {Q : Value → Shared → Prop} (hA : A.handled = none) (hT : ∀ s' : Shared, s'.TypeIs v T) (sl : Slot T "__getattribute__" id) (en : entryFor table id = some Bi)
    (ar : ∀ u, argsOk id ⟨[v, .str (Str.ofString "read") u], []⟩) (me : ∀ u, Meets (Bi ⟨[v, .str (Str.ofString "read") u], []⟩) (raisesAttr v (Str.ofString "read"))) (f5 : typeLookup (.type T) "__getattr__" = pure none) (hv1 : (v == Value.builtin "__main__.__loader__#opaque") = false) (hr : ∀ a, v ≠ .ref a) (f6 : typeLookup (.type T) (Str.ofString "read") = pure none)
    (h : ∀ h' tk, (∀ b o, s.heap.get? b = some o → h'.get? b = some o) → Q (.bool false) { s with heap := h', toks := tk }) :
    wpAny (model prog w) A (call (.builtin "hasattr") [v, .str (Str.ofString "read") u]) Q E s := by
  refine Calls.call_function_entry ha_kind ha_plain ha_entry (ha_args _ _) ?_
  obtain ⟨hp, g, d, tk, os⟩ := s
  have f1 := sub_AttributeError
  have f3 := sl.lookup
  have f4 := sl.bind v
  unfold Builtin.«hasattr»
  repeat (any_goals (first | assumption | (with_reducible refine wpAny_typeOf (hT _) ?_) | ((with_reducible show wpAny _ _ (call (Value.builtin id) _ _) _ _ _); refine call_meets sl (hT _) en (ar _) (me _) ⟨hA, fun h' tk' e hx => ?_⟩) | wp_step | (simp only [hv1, Bool.false_eq_true, if_false])))
  obtain ⟨t', u', he⟩ := hx.there
  show wpAny _ _ (getattributeRaised _ _ _ _ _ _ _) _ _ _
  unfold getattributeRaised
  repeat (any_goals (first | assumption | (with_reducible refine wpAny_typeOf (hT _) ?_) | wp_step | (simp only [hv1, Bool.false_eq_true, if_false])))
  exact ⟨_, rfl, h _ _ hx.keeps⟩
theorem ha_str_none : typeLookup (.type "str") (Str.ofString "read") = pure none := by rw [typeLookup_type, builtinLookup_eq_fast]; kernel_rfl
theorem hasattr_str {x : Str} {t u : Tok} {Q : Value → Shared → Prop} (hA : A.handled = none)
    (h : ∀ h' tk, (∀ b o, s.heap.get? b = some o → h'.get? b = some o) → Q (.bool false) { s with heap := h', toks := tk }) :
    wpAny (model prog w) A (call (.builtin "hasattr") [.str x t, .str (Str.ofString "read") u]) Q E s :=
  hasattr_gen (T := "str") hA (fun _ => rfl) F.slot_str_getattribute F.entry_object_getattribute (fun _ => F.args_object_getattribute_2 _ _) (fun _ => meets_getattribute_miss_str x t _ _ ha_str_none (by decide +kernel)) am_str_getattr_none rfl (fun _ e => nomatch e) ha_str_none h
theorem ha_bytes_none : typeLookup (.type "bytes") (Str.ofString "read") = pure none := by rw [typeLookup_type, builtinLookup_eq_fast]; kernel_rfl
theorem ha_bytes_getattr_none : typeLookup (.type "bytes") "__getattr__" = pure none := by rw [typeLookup_type, builtinLookup_eq_fast]; kernel_rfl
theorem miss_bytes (x : Array UInt8) (t : Tok) (name : Str) (u : Tok) (hmiss : typeLookup (.type "bytes") name = pure none) (hsz : name.length + 100 ≤ sizeLine := by size_fits) :
    Meets (Builtin.«object.__getattribute__» ⟨[.bytes x t, .str name u], []⟩) (raisesAttr (.bytes x t) name) :=
  Meets.of_wp fun prog w A R s hs => by
    obtain ⟨hp, g, d, tk, os⟩ := s
    have hT : ∀ s' : Shared, s'.TypeIs (.bytes x t) "bytes" := fun _ => rfl
    unfold Builtin.«object.__getattribute__»
    repeat (any_goals (first | assumption | (with_reducible refine wpAny_typeOf (hT _) ?_) | wp_step))
    exact wpAny_raiseAttrError hs.1 hs.2 (attrMsg_fits (by decide +kernel) hsz)
theorem hasattr_bytes {x : Array UInt8} {t u : Tok} {Q : Value → Shared → Prop} (hA : A.handled = none)
    (h : ∀ h' tk, (∀ b o, s.heap.get? b = some o → h'.get? b = some o) → Q (.bool false) { s with heap := h', toks := tk }) :
    wpAny (model prog w) A (call (.builtin "hasattr") [.bytes x t, .str (Str.ofString "read") u]) Q E s :=
  hasattr_gen (T := "bytes") hA (fun _ => rfl) F.slot_bytes_getattribute F.entry_bytes_ga (fun _ => F.args_bytes_getattribute_2 _ _) (fun _ => miss_bytes x t _ _ ha_bytes_none (by decide +kernel)) ha_bytes_getattr_none rfl (fun _ e => nomatch e) ha_bytes_none h
end
end Mine
end

section
open PySem PySem.W PySem.Calls PyProof.Rows
set_option Elab.async false
set_option maxRecDepth 100000
set_option maxHeartbeats 4000000
namespace Mine
def octs (l : List Nat) : Array UInt8 := (l.map Nat.toUInt8).toArray
def Ascii (l : List Nat) : Prop := ∀ c ∈ l, c < 128
theorem octs_size (l : List Nat) : (octs l).size = l.length := by simp [octs]
theorem loop_pure {σ : Type} {n : Nat} {f : Nat → σ → Sem (ForInStep σ)} (S : Nat → σ) (hf : ∀ i k, k < n → f i (S k) = pure (.yield (S (k+1)))) :
    ∀ (L : List Nat) (k : Nat), k + L.length ≤ n → (forIn L (S k) f : Sem σ) = pure (S (k + L.length))
  | [], k, _ => by simp
  | a :: L, k, h => by
    rw [List.forIn_cons, hf a k (by simp at h; omega)]
    show (forIn L (S (k+1)) f : Sem σ) = _
    rw [loop_pure S hf L (k+1) (by simp at h; omega)]
    congr 2; simp; omega
theorem oct_at {l : List Nat} (ha : Ascii l) {k : Nat} (hk : k < l.length) : Builtin.Bytes.utf8At (octs l) k = (.char (l[k]), k + 1) := by
  have e : ((octs l).getD k 0).toNat = l[k] := by
    have h := ha _ (List.getElem_mem hk)
    simp [octs, Array.getD, hk]
    omega
  unfold Builtin.Bytes.utf8At
  rw [e, if_pos (ha _ (List.getElem_mem hk))]
open Builtin._codecs in
theorem dec_eq {l : List Nat} (ha : Ascii l) (hl : l.length ≤ 1000) (id : String) : runDecoder id utf8Decoder none true (octs l) 0 [] = pure (l.toArray, l.length) := by
  unfold runDecoder
  dsimp only
  rw [Std.Legacy.Range.forIn_eq_forIn_range']
  refine Eq.trans (congrArg (fun t => t >>= _) (loop_pure (n := l.length) (fun k => (k, (l.take k).toArray, ({}:Faults))) (fun i k hk => ?_) _ 0 ?_)) ?_
  · have h1 : ¬ ((l.take k).toArray.size > sizeLine) := by
      rw [sizeLine_eq]; simp; omega
    have h2 : ¬ (k ≥ (octs l).size) := by rw [octs_size]; omega
    dsimp only
    rw [if_neg h1, if_neg h2]
    have hfd : utf8Decoder.find true (octs l) k = .text [l[k]] (k + 1) := by
      show (match Builtin.Bytes.utf8At (octs l) k with | (.char c, next) => Found.char c next | (.bad _ stop reason, _) => _) = _
      rw [oct_at ha hk]; rfl
    rw [hfd]
    dsimp only
    have e : (l.take k).toArray ++ [l[k]].toArray = (l.take (k+1)).toArray := Array.ext' (by rw [Array.toList_append]; exact List.take_append_getElem hk)
    rw [e]
  · simp [octs_size, Std.Legacy.Range.size]
  · simp [octs_size, Std.Legacy.Range.size]
theorem extract_all (l : List Nat) : l.toArray.extract 0 l.toArray.size = l.toArray := by simp
theorem find_none {l : List Nat} (ha : Ascii l) : l.toArray.findIdx? Str.isSurrogate = none := by
  rw [Array.findIdx?_eq_none_iff]
  intro x hx
  have := ha x (by simpa using hx)
  unfold Str.isSurrogate
  simp; omega
theorem oct_fold : ∀ (l : List Nat) (acc : Array UInt8), Ascii l → l.foldl (fun acc y => acc ++ (Str.utf8Of y).toArray) acc = acc ++ octs l
  | [], acc, _ => by simp [octs]
  | c :: l, acc, h => by
    have hc : c < 128 := h c (by simp)
    rw [List.foldl_cons, oct_fold l _ (fun x hx => h x (by simp [hx]))]
    unfold Str.utf8Of
    rw [if_pos hc]
    simp [octs]
open Builtin._codecs in
theorem enc_eq {c : Nat} {l : List Nat} (ha : Ascii (c :: l)) (hl : (c :: l).length ≤ 1000) (v : Value) (id : String) : encodeNarrow id utf8Codec none v (txt (c :: l)) = pure (octs (c :: l)) := by
  unfold encodeNarrow
  dsimp only
  rw [Std.Legacy.Range.forIn_eq_forIn_range']
  have hr : [:(txt (c :: l)).length].size = l.length + 1 := by rw [txt_len]; simp [Std.Legacy.Range.size]
  rw [hr, List.range'_succ, List.forIn_cons]
  rw [if_neg (by rw [sizeLine_eq]; decide)]
  have h0 : (txt (c :: l)).cps[0]? = some c := by simp
  rw [h0]
  dsimp only
  have h1 : utf8Codec.bad c = false := by
    have := ha c (by simp)
    show Str.isSurrogate c = false
    unfold Str.isSurrogate; simp; omega
  have h2 : (Array.findIdx? utf8Codec.bad ((txt (c :: l)).cps.extract 0 (txt (c :: l)).cps.size)) = none := by rw [extract_all]; exact find_none ha
  rw [h1, h2]
  rw [if_pos (by rfl)]
  have h3 : Array.foldl (fun acc y => acc ++ (utf8Codec.bytesOf y).toArray) #[] ((c :: l).toArray.extract.extract 0 (none.getD (c :: l).toArray.extract.size)) = octs (c :: l) := by
    rw [Option.getD_none, extract_all, extract_all, List.foldl_toArray]
    exact (oct_fold (c :: l) #[] ha).trans (by simp)
  rw [h3]
  simp only [pure_bind]
  cases l with
  | nil => rfl
  | cons d l =>
    rw [show [:(txt (c :: d :: l)).length].start + [:(txt (c :: d :: l)).length].step = 1 from rfl, List.length_cons, List.range'_succ, List.forIn_cons]
    rw [if_neg (by show ¬ (octs (c :: d :: l)).size > sizeLine; rw [octs_size, sizeLine_eq]; omega)]
    have h5 : (c :: d :: l).toArray[((0 : Nat) + (none : Option Nat).getD (c :: d :: l).toArray.extract.size, octs (c :: d :: l), ({} : Faults)).fst]? = none := by simp
    rw [h5]
    rfl
section
open Builtin._codecs
variable {prog : Program} {w : World} {A : Around} {E : Value → Shared → Prop} {s : Shared}
theorem my_encode {c : Nat} {l : List Nat} {t : Tok} {Q : Value → Shared → Prop} (ha : Ascii (c :: l)) (hl : (c :: l).length ≤ 1000) (h : ∀ t' k, Q (.bytes (octs (c :: l)) t') { s with toks := k }) :
    wpAny (model prog w) A (call (.builtin "str.encode") [.str (txt (c :: l)) t]) Q E s := by
  refine call_meets F.slot_str_encode (show s.TypeIs (.str (txt (c :: l)) t) "str" from rfl) F.entry_str_encode (F.args_str_encode_1 _) (S := fun _ R s => ∀ t' k, R (.ok (.ret (.bytes (octs (c :: l)) t'))) { s with toks := k }) (.of_wp fun prog w A R s hS => ?_) h
  rw [encode_tree, encodeRoad_utf8, enc_eq ha hl]
  refine wpAny_bind (wpAny_bind (wpAny_pure ?_))
  exact wpAny_mkBytes (wpAny_pure ⟨_, rfl, hS _ _⟩) (by show (octs (c :: l)).size ≤ sizeLine; rw [octs_size, sizeLine_eq]; omega)
theorem my_decode {c : Nat} {l : List Nat} {t : Tok} {Q : Value → Shared → Prop} (ha : Ascii (c :: l)) (hl : (c :: l).length ≤ 1000) (h : ∀ t' k, Q (.str (txt (c :: l)) t') { s with toks := k }) :
    wpAny (model prog w) A (call (.builtin "bytes.decode") [.bytes (octs (c :: l)) t]) Q E s :=
  PySem.W.KBd.decode (c := c.toUInt8) (cs := l.map Nat.toUInt8) (x := txt (c :: l)) (n := (c :: l).length) (fun id => dec_eq ha hl id) (by rw [txt_len]; omega) h
end
end Mine
end

section
open PySem PySem.W PySem.Calls PyProof.Rows
set_option Elab.async false
set_option maxRecDepth 100000
set_option maxHeartbeats 4000000
namespace Mine
section
variable {prog : Program} {w : World} {A : Around} {E : Value → Shared → Prop} {s : Shared} {h₀ : Heap} {L : Addr} {m : Str → Option Value} {news : Led}
theorem my_has_str {x : Str} {t u : Tok} {Q : Value → Shared → Prop} (hA : A.handled = none) (F : Fr h₀ L s.heap m) (N : News h₀ L s.heap news)
    (h : ∀ h' tk, Fr h₀ L h' m → News h₀ L h' news → Q (.bool false) { s with heap := h', toks := tk }) :
    wpAny (model prog w) A (call (.builtin "hasattr") [.str x t, .str (Str.ofString "read") u]) Q E s :=
  hasattr_str hA fun h' tk hk => h h' tk (F.keptAll hk) fun p hp => ⟨hk _ _ (N p hp).1, (N p hp).2⟩
theorem my_has_bytes {x : Array UInt8} {t u : Tok} {Q : Value → Shared → Prop} (hA : A.handled = none) (F : Fr h₀ L s.heap m) (N : News h₀ L s.heap news)
    (h : ∀ h' tk, Fr h₀ L h' m → News h₀ L h' news → Q (.bool false) { s with heap := h', toks := tk }) :
    wpAny (model prog w) A (call (.builtin "hasattr") [.bytes x t, .str (Str.ofString "read") u]) Q E s :=
  hasattr_bytes hA fun h' tk hk => h h' tk (F.keptAll hk) fun p hp => ⟨hk _ _ (N p hp).1, (N p hp).2⟩
end
end Mine
namespace Mine
theorem fre_ne {mods' news : Led} (f : ∀ p ∈ mods', (∃ q ∈ ([] : Led), q.1 = p.1) ∨ ∀ r ∈ news, r.1 ≠ p.1) {a b : Addr} {o o' : Obj} (hp : (a, o) ∈ mods') (hr : (b, o') ∈ news) : @Ne Nat b a :=
  (f _ hp).elim (fun ⟨_, hq, _⟩ => nomatch hq) fun h => h _ hr
end Mine
end

section
open PySem PySem.W PySem.Calls PyProof.Rows
set_option Elab.async false
set_option maxRecDepth 100000
set_option maxHeartbeats 4000000
namespace Mine

set_option rowWalk.seconds 0

local macro_rules | `(tactic| walk_at "m_go") => `(tactic| repeat' (
  (fail_if_success (with_reducible show PySem.wpAny _ _ (PySem.call (PySem.Value.ref _) _) _ _ _))
  (fail_if_success (with_reducible show PySem.wpAny _ _ (PySem.exec (PySem.Stmt.While _ _ _ _) _) _ _ _))
  (fail_if_success (with_reducible show Mine.EndB _ _ _ _ _ _))
  (first | (k_unfold; (try dsimp only)) | walk1 | (dsimp only; walk1) | fail "no step")))

local macro_rules | `(tactic| walk_at "truthy ref") => `(tactic| (k_here; (with_reducible show PySem.wpAny _ _ (PySem.truthy (PySem.Value.ref _)) _ _ _); k_dflt (refine' my_truthy ?N ?m ?z ?_; (case N => k_asm); (case m => k_mem); (case z => first | omega | (simp only [List.length_cons]; omega)); k_whole); (intro _); (try simp only [List.isEmpty_cons, List.isEmpty_nil, Bool.not_false, Bool.not_true])))
local macro_rules | `(tactic| walk_at "call builtin:list.pop") => `(tactic| (k_here; (with_reducible show PySem.wpAny _ _ (PySem.call (PySem.Value.builtin _) [PySem.Value.ref _, PySem.Value.int _ _]) _ _ _); k_dflt (refine' my_pop0 ?F ?N ?U ?z ?_; (case F => k_asm); (case N => k_asm); (case U => k_upd); (case z => omega)); kl_rest))
local macro_rules | `(tactic| walk_at "call builtin:len") => `(tactic| (k_here; (with_reducible show PySem.wpAny _ _ (PySem.call (PySem.Value.builtin "len") [PySem.Value.ref _]) _ _ _); k_dflt (refine' my_len ?N ?m ?z ?_; (case N => k_asm); (case m => k_mem); (case z => first | omega | (simp only [List.length_cons]; omega)); k_whole); (intro _ _)))

local macro_rules | `(tactic| walk_at "inplaceOp Add str str") => `(tactic| (k_here; (with_reducible show PySem.wpAny _ _ (PySem.inplaceOp PySem.Operator.Add (PySem.Value.str _ _) (PySem.Value.str _ _)) _ _ _); k_dflt (refine' my_iadd_txt ?z ?_; (case z => first | omega | (simp only [List.length_cons, List.length_append, List.length_take, List.length_drop, List.length_nil]; omega)); k_whole); (intro _ _)))
local macro_rules | `(tactic| walk_at "binaryOp Add str str") => `(tactic| (k_here; (with_reducible show PySem.wpAny _ _ (PySem.binaryOp PySem.Operator.Add (PySem.Value.str _ _) (PySem.Value.str _ _)) _ _ _); k_dflt (refine' my_add_txt ?z ?_; (case z => first | omega | (simp only [List.length_cons, List.length_append, List.length_take, List.length_drop, List.length_nil]; omega)); k_whole); (intro _ _)))
local macro_rules | `(tactic| walk_at "subscriptTail Attribute") => `(tactic| (k_here; (with_reducible show PySem.wpAny _ _ (subscriptTail _ _ (PySem.Value.ref _) (PySem.Value.int _ _)) _ _ _); k_dflt (refine' my_item ?N ?m ?a ?b ?c ?_; (case N => k_asm); (case m => k_mem); (case a => omega); (case b => omega); (case c => k_asm))))

local macro_rules | `(tactic| walk_at "call builtin:list.extend") => `(tactic| (k_here; (with_reducible show PySem.wpAny _ _ (PySem.call (PySem.Value.builtin _) [PySem.Value.ref _, PySem.Value.str _ _]) _ _ _); k_dflt (refine' my_extend ?hh ?F ?N ?m ?z ?_; (case hh => exact rfl); (case F => k_asm); (case N => k_asm); (case m => k_mem); (case z => omega)); (intro h' us n' tk F' hus hN); (have N' := hN _ (by k_upd)); clear hN; (try k_sweep)))

local macro_rules | `(tactic| walk_at "call builtin:list.extend") => `(tactic| (k_here; (with_reducible show PySem.wpAny _ _ (PySem.call (PySem.Value.builtin _) [PySem.Value.ref _, PySem.Value.ref _]) _ _ _); k_dflt (refine' my_extend_list ?F ?N ?m ?b ?z ?_; (case F => k_asm); (case N => k_asm); (case m => k_mem); (case b => k_mem); (case z => omega)); (intro h' n' F' hN); (have N' := hN _ (by k_upd)); clear hN; (try k_sweep)))
local macro_rules | `(tactic| walk_at "call type:list") => `(tactic| (k_here; (with_reducible show PySem.wpAny _ _ (PySem.call (PySem.Value.type _) [PySem.Value.str _ _]) _ _ _); k_dflt (refine' my_list_str ?hh ?F ?N ?z ?_; (case hh => exact rfl); (case F => k_asm); (case N => k_asm); (case z => omega)); (intro D h' us n' tk F' hus N' l1); (have hul := Chars.length hus); (try k_lt l1); (try k_sweep)))

local macro_rules | `(tactic| walk_at "subscriptTail Name Slice str ref") => `(tactic| (k_here; (with_reducible show PySem.wpAny _ _ (subscriptTail _ (PySem.Expr.Slice none (some _) none _) (PySem.Value.str (txt _) _) _) _ _ _); (with_reducible rename Fr _ _ _ _ => F'); (with_reducible rename News _ _ _ _ => N'); (refine my_slice_to (s := ⟨_, _, _, _, _⟩) F' N' (by omega) (by first | omega | (simp only [List.length_take, List.length_drop]; omega)) ?_); (intro _ _ _ _ _)))
local macro_rules | `(tactic| walk_at "subscriptTail Name Slice str ref") => `(tactic| (k_here; (with_reducible show PySem.wpAny _ _ (subscriptTail _ (PySem.Expr.Slice (some _) none none _) (PySem.Value.str (txt _) _) _) _ _ _); (with_reducible rename Fr _ _ _ _ => F'); (with_reducible rename News _ _ _ _ => N'); (refine my_slice_from (s := ⟨_, _, _, _, _⟩) F' N' (by omega) (by first | omega | (simp only [List.length_take, List.length_drop]; omega)) ?_); (intro _ _ _ _ _)))
local macro_rules | `(tactic| walk_at "call builtin:len") => `(tactic| (k_here; (with_reducible show PySem.wpAny _ _ (PySem.call (PySem.Value.builtin "len") [PySem.Value.str (txt _) _]) _ _ _); (refine my_len_txt (by first | omega | (simp only [List.length_take, List.length_drop]; omega)) ?_); (intro _ _)))

local macro_rules | `(tactic| walk_at "call builtin:hasattr") => `(tactic| (k_here; (with_reducible show PySem.wpAny _ _ (PySem.call (PySem.Value.builtin "hasattr") [PySem.Value.str _ _, _]) _ _ _); k_dflt (refine' my_has_str ?hh ?F ?N ?_; (case hh => exact rfl); (case F => k_asm); (case N => k_asm)); (intro h' tk F' N'); (try k_sweep)))
local macro_rules | `(tactic| walk_at "call builtin:hasattr") => `(tactic| (k_here; (with_reducible show PySem.wpAny _ _ (PySem.call (PySem.Value.builtin "hasattr") [PySem.Value.bytes _ _, _]) _ _ _); k_dflt (refine' my_has_bytes ?hh ?F ?N ?_; (case hh => exact rfl); (case F => k_asm); (case N => k_asm)); (intro h' tk F' N'); (try k_sweep)))
local macro_rules | `(tactic| walk_at "call builtin:bytes.decode") => `(tactic| (k_here; (with_reducible show PySem.wpAny _ _ (PySem.call (PySem.Value.builtin "bytes.decode") [PySem.Value.bytes (octs (_ :: _)) _]) _ _ _); (refine my_decode (by k_asm) (by k_asm) ?_); (intro _ _)))

theorem tells_linit (w : World) (x dx : Addr) (h_x_dx : @Ne Nat x dx) (l : List Nat) (t : Tok) : Tells w 587 350 40 (fun _ => True) [(x, instObj 648 dx), (dx, dictOf [] 0)] [.ref x, .str (txt l) t]
   (fun v mods' => v = .none ∧ ∃ qa fx fd sm y1 y2 y3 y4 y5 y6 x1 x2 x3 j1 j2 j3 j4 j5 j6 k1 k2 k3 k4 k5 k6, @Ne Nat x dx ∧ @Ne Nat x qa ∧ @Ne Nat x fx ∧ @Ne Nat x fd ∧ @Ne Nat dx qa ∧ @Ne Nat dx fx ∧ @Ne Nat dx fd ∧ @Ne Nat qa fx ∧ @Ne Nat qa fd ∧ @Ne Nat fx fd ∧ mods' = (sm, methodObj (.ref 645) (.ref x)) :: [(x, instObj 648 dx), (dx, dictOf [⟨y1, .str (Str.ofString "f") j1, .ref fx⟩, ⟨y2, .str (Str.ofString "debug") j2, .bool false⟩, ⟨y3, .str (Str.ofString "q") j3, .ref qa⟩, ⟨y4, .str (Str.ofString "state") j4, .ref sm⟩, ⟨y5, .str (Str.ofString "escaped") j5, .bool false⟩, ⟨y6, .str (Str.ofString "eof") j6, .bool false⟩] 6), (qa, listOf (List.toArray []) 0), (fx, instObj 569 fd), (fd, dictOf [⟨x1, .str (Str.ofString "_StringIO__newline") k1, .str (Str.ofString "\n") k2⟩, ⟨x2, .str (Str.ofString "_StringIO__buf") k3, .str (txt l) k4⟩, ⟨x3, .str (Str.ofString "_StringIO__pos") k5, .int 0 k6⟩] 3)]) := by
  have kf : (hd.heap_39 w.params).In = (hd.heap_39 w.params).In ∧ PySem.Challenge.rw_gr5003_01 = PySem.Challenge.rw_gr5003_01 := ⟨rfl, rfl⟩
  revert kf
  w_top off
  k_fill
  intro _
  refine' tells_of_body (binds := [(Str.ofString "self", .ref x), (Str.ofString "f", .str (txt l) t), (Str.ofString "debug", .bool false)]) ?ho ?hcd (by decide) (fun _ _ _ h => h) ?hb ?hl ?hc ?h1 ?h2 ?h3 ?body
  case ho => k_dflt k_is
  case hcd => k_dflt k_is
  case hb => intro s X; first | exact BindsTo.of_eq rfl | exact binds_K X rfl (by k_dflt k_is) rfl rfl rfl
  case hl => exact locs rfl
  case hc => decide
  case h1 => rfl
  case h2 => rfl
  case h3 => rfl
  intro mean mg mb outer base g L' s A₀ B F X N T PR LT
  try dsimp only
  k_fold
  have LT2 := allLt_of LT
  simp only [AllLt, and_true] at LT2

  walk_at "m_go"
  refine tells_use [(x, instObj 648 dx), (dx, dictOf [] 0)] (tells_newSIO w l t) (by decide) (by decide) (by k_asm) (by k_asm) (by k_asm) (by k_asm) (by k_asm) rfl True.intro (by repeat' (first | exact List.forall_mem_nil _ | (refine' List.forall_mem_cons.mpr ⟨?_, ?_⟩) | k_mem | k_ne)) (by repeat' (first | exact List.forall_mem_nil _ | (refine' List.forall_mem_cons.mpr ⟨?_, ?_⟩) | k_mem | k_ne)) (by repeat' (first | exact List.forall_mem_nil _ | (refine' List.forall_mem_cons.mpr ⟨?_, ?_⟩) | k_mem | k_ne)) ?_
  intro v h1 tk1 mods1 F1 N1 Fre hP
  obtain ⟨fx, fd, x1, x2, x3, k1, k2, k3, k4, k5, k6, rfl, h_fx_fd, rfl⟩ := hP
  simp only [List.cons_append, List.nil_append] at N1
  have h_x_fx : @Ne Nat x fx := fre_ne Fre (.head _) (.head _)
  have h_x_fd : @Ne Nat x fd := fre_ne Fre (.tail _ (.head _)) (.head _)
  have h_dx_fx : @Ne Nat dx fx := fre_ne Fre (.head _) (.tail _ (.head _))
  have h_dx_fd : @Ne Nat dx fd := fre_ne Fre (.tail _ (.head _)) (.tail _ (.head _))
  walk_at "m_go"
  rename News _ _ _ _ => NN
  refine' endB_of (by assumption) (m' := _) (mods' := (?sm, methodObj (.ref 645) (.ref x)) :: [(x, instObj 648 dx), (dx, dictOf [⟨_, .str (Str.ofString "f") _, .ref fx⟩, ⟨_, .str (Str.ofString "debug") _, .bool false⟩, ⟨_, .str (Str.ofString "q") _, .ref ?qa⟩, ⟨_, .str (Str.ofString "state") _, .ref ?sm⟩, ⟨_, .str (Str.ofString "escaped") _, .bool false⟩, ⟨_, .str (Str.ofString "eof") _, .bool false⟩] 6), (?qa, listOf (List.toArray []) 0), (fx, instObj 569 fd), (fd, dictOf [⟨x1, .str (Str.ofString "_StringIO__newline") k1, .str (Str.ofString "\n") k2⟩, ⟨x2, .str (Str.ofString "_StringIO__buf") k3, .str (txt l) k4⟩, ⟨x3, .str (Str.ofString "_StringIO__pos") k5, .int 0 k6⟩] 3)]) ?nn ⟨rfl, ?qa, fx, fd, ?sm, _, _, _, _, _, _, _, _, _, _, _, _, _, _, _, _, _, _, _, _, _, ?e1, ?e2, ?e3, ?e4, ?e5, ?e6, ?e7, ?e8, ?e9, ?e10, rfl⟩
  case nn => repeat' (first | exact List.forall_mem_nil _ | (refine' List.forall_mem_cons.mpr ⟨NN _ (by k_mem), ?_⟩))
  all_goals (first | omega | k_ne)

theorem tells_linitb (w : World) (x dx : Addr) (h_x_dx : @Ne Nat x dx) (c : Nat) (l : List Nat) (ha : Ascii (c :: l)) (hl : (c :: l).length ≤ 1000) (t : Tok) : Tells w 587 350 40 (fun _ => True) [(x, instObj 648 dx), (dx, dictOf [] 0)] [.ref x, .bytes (octs (c :: l)) t]
   (fun v mods' => v = .none ∧ ∃ qa fx fd sm y1 y2 y3 y4 y5 y6 x1 x2 x3 j1 j2 j3 j4 j5 j6 k1 k2 k3 k4 k5 k6, @Ne Nat x dx ∧ @Ne Nat x qa ∧ @Ne Nat x fx ∧ @Ne Nat x fd ∧ @Ne Nat dx qa ∧ @Ne Nat dx fx ∧ @Ne Nat dx fd ∧ @Ne Nat qa fx ∧ @Ne Nat qa fd ∧ @Ne Nat fx fd ∧ mods' = (sm, methodObj (.ref 645) (.ref x)) :: [(x, instObj 648 dx), (dx, dictOf [⟨y1, .str (Str.ofString "f") j1, .ref fx⟩, ⟨y2, .str (Str.ofString "debug") j2, .bool false⟩, ⟨y3, .str (Str.ofString "q") j3, .ref qa⟩, ⟨y4, .str (Str.ofString "state") j4, .ref sm⟩, ⟨y5, .str (Str.ofString "escaped") j5, .bool false⟩, ⟨y6, .str (Str.ofString "eof") j6, .bool false⟩] 6), (qa, listOf (List.toArray []) 0), (fx, instObj 569 fd), (fd, dictOf [⟨x1, .str (Str.ofString "_StringIO__newline") k1, .str (Str.ofString "\n") k2⟩, ⟨x2, .str (Str.ofString "_StringIO__buf") k3, .str (txt (c :: l)) k4⟩, ⟨x3, .str (Str.ofString "_StringIO__pos") k5, .int 0 k6⟩] 3)]) := by
  have kf : (hd.heap_39 w.params).In = (hd.heap_39 w.params).In ∧ PySem.Challenge.rw_gr5003_01 = PySem.Challenge.rw_gr5003_01 := ⟨rfl, rfl⟩
  revert kf
  w_top off
  k_fill
  intro _
  refine' tells_of_body (binds := [(Str.ofString "self", .ref x), (Str.ofString "f", .bytes (octs (c :: l)) t), (Str.ofString "debug", .bool false)]) ?ho ?hcd (by decide) (fun _ _ _ h => h) ?hb ?hl ?hc ?h1 ?h2 ?h3 ?body
  case ho => k_dflt k_is
  case hcd => k_dflt k_is
  case hb => intro s X; first | exact BindsTo.of_eq rfl | exact binds_K X rfl (by k_dflt k_is) rfl rfl rfl
  case hl => exact locs rfl
  case hc => decide
  case h1 => rfl
  case h2 => rfl
  case h3 => rfl
  intro mean mg mb outer base g L' s A₀ B F X N T PR LT
  try dsimp only
  k_fold
  have LT2 := allLt_of LT
  simp only [AllLt, and_true] at LT2

  walk_at "m_go"
  refine tells_use [(x, instObj 648 dx), (dx, dictOf [] 0)] (tells_newSIO w (c :: l) _) (by decide) (by decide) (by k_asm) (by k_asm) (by k_asm) (by k_asm) (by k_asm) rfl True.intro (by repeat' (first | exact List.forall_mem_nil _ | (refine' List.forall_mem_cons.mpr ⟨?_, ?_⟩) | k_mem | k_ne)) (by repeat' (first | exact List.forall_mem_nil _ | (refine' List.forall_mem_cons.mpr ⟨?_, ?_⟩) | k_mem | k_ne)) (by repeat' (first | exact List.forall_mem_nil _ | (refine' List.forall_mem_cons.mpr ⟨?_, ?_⟩) | k_mem | k_ne)) ?_
  intro v h1 tk1 mods1 F1 N1 Fre hP
  obtain ⟨fx, fd, x1, x2, x3, k1, k2, k3, k4, k5, k6, rfl, h_fx_fd, rfl⟩ := hP
  simp only [List.cons_append, List.nil_append] at N1
  have h_x_fx : @Ne Nat x fx := fre_ne Fre (.head _) (.head _)
  have h_x_fd : @Ne Nat x fd := fre_ne Fre (.tail _ (.head _)) (.head _)
  have h_dx_fx : @Ne Nat dx fx := fre_ne Fre (.head _) (.tail _ (.head _))
  have h_dx_fd : @Ne Nat dx fd := fre_ne Fre (.tail _ (.head _)) (.tail _ (.head _))
  walk_at "m_go"
  rename News _ _ _ _ => NN
  refine' endB_of (by assumption) (m' := _) (mods' := (?sm, methodObj (.ref 645) (.ref x)) :: [(x, instObj 648 dx), (dx, dictOf [⟨_, .str (Str.ofString "f") _, .ref fx⟩, ⟨_, .str (Str.ofString "debug") _, .bool false⟩, ⟨_, .str (Str.ofString "q") _, .ref ?qa⟩, ⟨_, .str (Str.ofString "state") _, .ref ?sm⟩, ⟨_, .str (Str.ofString "escaped") _, .bool false⟩, ⟨_, .str (Str.ofString "eof") _, .bool false⟩] 6), (?qa, listOf (List.toArray []) 0), (fx, instObj 569 fd), (fd, dictOf [⟨x1, .str (Str.ofString "_StringIO__newline") k1, .str (Str.ofString "\n") k2⟩, ⟨x2, .str (Str.ofString "_StringIO__buf") k3, .str (txt (c :: l)) k4⟩, ⟨x3, .str (Str.ofString "_StringIO__pos") k5, .int 0 k6⟩] 3)]) ?nn ⟨rfl, ?qa, fx, fd, ?sm, _, _, _, _, _, _, _, _, _, _, _, _, _, _, _, _, _, _, _, _, _, ?e1, ?e2, ?e3, ?e4, ?e5, ?e6, ?e7, ?e8, ?e9, ?e10, rfl⟩
  case nn => repeat' (first | exact List.forall_mem_nil _ | (refine' List.forall_mem_cons.mpr ⟨NN _ (by k_mem), ?_⟩))
  all_goals (first | omega | k_ne)

end Mine
end

section
open PySem PySem.W PySem.Calls PyProof.Rows
set_option Elab.async false
set_option maxRecDepth 100000
set_option maxHeartbeats 4000000
namespace Mine

set_option rowWalk.seconds 0
open Builtin Builtin.ObjectAttr

local macro_rules | `(tactic| walk_at "m_go") => `(tactic| repeat' (
  (fail_if_success (with_reducible show PySem.wpAny _ _ (PySem.call (PySem.Value.ref _) _) _ _ _))
  (fail_if_success (with_reducible show PySem.wpAny _ _ (PySem.exec (PySem.Stmt.While _ _ _ _) _) _ _ _))
  (fail_if_success (with_reducible show Mine.EndB _ _ _ _ _ _))
  (first | (k_unfold; (try dsimp only)) | walk1 | (dsimp only; walk1) | fail "no step")))

local macro_rules | `(tactic| walk_at "truthy ref") => `(tactic| (k_here; (with_reducible show PySem.wpAny _ _ (PySem.truthy (PySem.Value.ref _)) _ _ _); k_dflt (refine' my_truthy ?N ?m ?z ?_; (case N => k_asm); (case m => k_mem); (case z => first | omega | (simp only [List.length_cons]; omega)); k_whole); (intro _); (try simp only [List.isEmpty_cons, List.isEmpty_nil, Bool.not_false, Bool.not_true])))
local macro_rules | `(tactic| walk_at "call builtin:list.pop") => `(tactic| (k_here; (with_reducible show PySem.wpAny _ _ (PySem.call (PySem.Value.builtin _) [PySem.Value.ref _, PySem.Value.int _ _]) _ _ _); k_dflt (refine' my_pop0 ?F ?N ?U ?z ?_; (case F => k_asm); (case N => k_asm); (case U => k_upd); (case z => omega)); kl_rest))
local macro_rules | `(tactic| walk_at "call builtin:len") => `(tactic| (k_here; (with_reducible show PySem.wpAny _ _ (PySem.call (PySem.Value.builtin "len") [PySem.Value.ref _]) _ _ _); k_dflt (refine' my_len ?N ?m ?z ?_; (case N => k_asm); (case m => k_mem); (case z => first | omega | (simp only [List.length_cons]; omega)); k_whole); (intro _ _)))

local macro_rules | `(tactic| walk_at "inplaceOp Add str str") => `(tactic| (k_here; (with_reducible show PySem.wpAny _ _ (PySem.inplaceOp PySem.Operator.Add (PySem.Value.str _ _) (PySem.Value.str _ _)) _ _ _); k_dflt (refine' my_iadd_txt ?z ?_; (case z => first | omega | (simp only [List.length_cons, List.length_append, List.length_take, List.length_drop, List.length_nil]; omega)); k_whole); (intro _ _)))
local macro_rules | `(tactic| walk_at "binaryOp Add str str") => `(tactic| (k_here; (with_reducible show PySem.wpAny _ _ (PySem.binaryOp PySem.Operator.Add (PySem.Value.str _ _) (PySem.Value.str _ _)) _ _ _); k_dflt (refine' my_add_txt ?z ?_; (case z => first | omega | (simp only [List.length_cons, List.length_append, List.length_take, List.length_drop, List.length_nil]; omega)); k_whole); (intro _ _)))
local macro_rules | `(tactic| walk_at "subscriptTail Attribute") => `(tactic| (k_here; (with_reducible show PySem.wpAny _ _ (subscriptTail _ _ (PySem.Value.ref _) (PySem.Value.int _ _)) _ _ _); k_dflt (refine' my_item ?N ?m ?a ?b ?c ?_; (case N => k_asm); (case m => k_mem); (case a => omega); (case b => omega); (case c => k_asm))))

local macro_rules | `(tactic| walk_at "call builtin:list.extend") => `(tactic| (k_here; (with_reducible show PySem.wpAny _ _ (PySem.call (PySem.Value.builtin _) [PySem.Value.ref _, PySem.Value.str _ _]) _ _ _); k_dflt (refine' my_extend ?hh ?F ?N ?m ?z ?_; (case hh => exact rfl); (case F => k_asm); (case N => k_asm); (case m => k_mem); (case z => omega)); (intro h' us n' tk F' hus hN); (have N' := hN _ (by k_upd)); clear hN; (try k_sweep)))

local macro_rules | `(tactic| walk_at "call builtin:list.extend") => `(tactic| (k_here; (with_reducible show PySem.wpAny _ _ (PySem.call (PySem.Value.builtin _) [PySem.Value.ref _, PySem.Value.ref _]) _ _ _); k_dflt (refine' my_extend_list ?F ?N ?m ?b ?z ?_; (case F => k_asm); (case N => k_asm); (case m => k_mem); (case b => k_mem); (case z => omega)); (intro h' n' F' hN); (have N' := hN _ (by k_upd)); clear hN; (try k_sweep)))
local macro_rules | `(tactic| walk_at "call type:list") => `(tactic| (k_here; (with_reducible show PySem.wpAny _ _ (PySem.call (PySem.Value.type _) [PySem.Value.str _ _]) _ _ _); k_dflt (refine' my_list_str ?hh ?F ?N ?z ?_; (case hh => exact rfl); (case F => k_asm); (case N => k_asm); (case z => omega)); (intro D h' us n' tk F' hus N' l1); (have hul := Chars.length hus); (try k_lt l1); (try k_sweep)))

local macro_rules | `(tactic| walk_at "subscriptTail Name Slice str ref") => `(tactic| (k_here; (with_reducible show PySem.wpAny _ _ (subscriptTail _ (PySem.Expr.Slice none (some _) none _) (PySem.Value.str (txt _) _) _) _ _ _); (with_reducible rename Fr _ _ _ _ => F'); (with_reducible rename News _ _ _ _ => N'); (refine my_slice_to (s := ⟨_, _, _, _, _⟩) F' N' (by omega) (by first | omega | (simp only [List.length_take, List.length_drop]; omega)) ?_); (intro _ _ _ _ _)))
local macro_rules | `(tactic| walk_at "subscriptTail Name Slice str ref") => `(tactic| (k_here; (with_reducible show PySem.wpAny _ _ (subscriptTail _ (PySem.Expr.Slice (some _) none none _) (PySem.Value.str (txt _) _) _) _ _ _); (with_reducible rename Fr _ _ _ _ => F'); (with_reducible rename News _ _ _ _ => N'); (refine my_slice_from (s := ⟨_, _, _, _, _⟩) F' N' (by omega) (by first | omega | (simp only [List.length_take, List.length_drop]; omega)) ?_); (intro _ _ _ _ _)))
local macro_rules | `(tactic| walk_at "call builtin:len") => `(tactic| (k_here; (with_reducible show PySem.wpAny _ _ (PySem.call (PySem.Value.builtin "len") [PySem.Value.str (txt _) _]) _ _ _); (refine my_len_txt (by first | omega | (simp only [List.length_take, List.length_drop]; omega)) ?_); (intro _ _)))

theorem tells_newL (w : World) (l : List Nat) (t : Tok) : Tells w 648 340 35 (fun _ => True) [] [.str (txt l) t]
   (fun v mods' => ∃ x dx qa fx fd sm y1 y2 y3 y4 y5 y6 x1 x2 x3 j1 j2 j3 j4 j5 j6 k1 k2 k3 k4 k5 k6, v = .ref x ∧ @Ne Nat x dx ∧ @Ne Nat x qa ∧ @Ne Nat x fx ∧ @Ne Nat x fd ∧ @Ne Nat dx qa ∧ @Ne Nat dx fx ∧ @Ne Nat dx fd ∧ @Ne Nat qa fx ∧ @Ne Nat qa fd ∧ @Ne Nat fx fd ∧ mods' = (sm, methodObj (.ref 645) (.ref x)) :: [(x, instObj 648 dx), (dx, dictOf [⟨y1, .str (Str.ofString "f") j1, .ref fx⟩, ⟨y2, .str (Str.ofString "debug") j2, .bool false⟩, ⟨y3, .str (Str.ofString "q") j3, .ref qa⟩, ⟨y4, .str (Str.ofString "state") j4, .ref sm⟩, ⟨y5, .str (Str.ofString "escaped") j5, .bool false⟩, ⟨y6, .str (Str.ofString "eof") j6, .bool false⟩] 6), (qa, listOf (List.toArray []) 0), (fx, instObj 569 fd), (fd, dictOf [⟨x1, .str (Str.ofString "_StringIO__newline") k1, .str (Str.ofString "\n") k2⟩, ⟨x2, .str (Str.ofString "_StringIO__buf") k3, .str (txt l) k4⟩, ⟨x3, .str (Str.ofString "_StringIO__pos") k5, .int 0 k6⟩] 3)]) := by
  intro mean mg mb dp un gd cn cs a ccd cl outer A₀ base h₀ L m s Q E hdp hun B F X N T hck hpre ret
  have kf : (hd.heap_39 w.params).In = (hd.heap_39 w.params).In ∧ PySem.Challenge.rw_gr5003_01 = PySem.Challenge.rw_gr5003_01 := ⟨rfl, rfl⟩
  revert kf
  w_top off
  k_fill
  intro _
  refine wpAny_weaken (A := ktrTop 340 35 none cn cs L a ccd cl outer) ?_ rfl hdp rfl rfl hun
  refine wpAny_call ?_
  have X' : (hd.heap_39 w.params).In s.heap := X.keeps F.keep
  have Y := makes_of (M := model PySem.Challenge.rw_gr5003_01.row.prog w) (C := 648) X' (by kernel_rfl)
  have Y' := Y
  have hi : Looks (model PySem.Challenge.rw_gr5003_01.row.prog w) s.heap (typeLookup (.ref 648) "__init__") (some (.ref 587)) := looks_findIn X' (by kernel_rfl)
  obtain ⟨hh, gg, dd, tk, os⟩ := s
  obtain ⟨⟨oc, od, cd, sl, hC, e1, e2, e4⟩, made, bse, self, top, call, typ⟩ := Y
  refine codeAny_of_tree ?_
  show wpAny _ _ (callAny (.ref 648) _) _ _ _
  refine nd_load hC ?_
  show wpAny _ _ (callAny.viaDunder (.ref 648) _) _ _ _
  unfold callAny.viaDunder
  refine wpAny_bind (call.at ?_)
  dsimp only
  rw [tc_bind]
  refine wpAny_bind (wpAny_pure (wpAny_bind (wpAny_pure ?_)))
  refine wpAny_pure (a := Fin.again (.call (.builtin "type.__call__") ⟨.ref 648 :: [.str (txt l) t], []⟩)) (And.intro rfl ?_)
  refine codeAny_call_builtin_at (Code.quiet_builtin _ (by decide +kernel)) entry_typeCall (check_slot tc_kind tc_split typ (tc_args _ _ _) ?_)
  unfold Builtin.«type.__call__»
  rw [under_tc]
  have hm : Looks (model PySem.Challenge.rw_gr5003_01.row.prog w) hh (mroOf (.ref 648)) cd.mro := ((Looks.ld (part := none) hC).andThen .now).andThen .now
  repeat (first | simp only [e4, Bool.false_eq_true, if_false] | with_reducible refine wpAny_call ?_ | lk)
  refine new_K Y' hi (.inl rfl) ?_
  have F1 : Fr h₀ L ((hh.push emptyDict).push (instObj 648 hh.objs.size)) m := (F.push _).push _
  have N1 := (N.push F emptyDict).push (F.push emptyDict) (instObj 648 hh.objs.size)
  rw [Heap.size_push] at N1
  have X1 : (hd.heap_39 w.params).In ((hh.push emptyDict).push (instObj 648 hh.objs.size)) := X.keeps F1.keep
  have hne : @Ne Nat (hh.objs.size + 1) hh.objs.size := Nat.succ_ne_self _
  have K1 : Kept hh [] ((hh.push emptyDict).push (instObj 648 hh.objs.size)) := fun b o e _ => Heap.get?_push_of_some _ (Heap.get?_push_of_some _ e)
  have Fre1 : Fresh hh [] [(hh.objs.size + 1, instObj 648 hh.objs.size), (hh.objs.size, dictOf [] 0)] := List.forall_mem_cons.mpr ⟨.inr (Heap.get?_none_of_le (Nat.le_succ _)), List.forall_mem_cons.mpr ⟨.inr (Heap.get?_none_of_le (Nat.le_refl _)), List.forall_mem_nil _⟩⟩
  have I1 : InstAt ((hh.push emptyDict).push (instObj 648 hh.objs.size)) (hh.objs.size + 1) (instObj 648 hh.objs.size) 648 (some (dictOf [] 0)) := by k_inst
  unfold isInstance
  dsimp only
  refine wpAny_bind (wpAny_bind (I1.type.here ((self.keeps fun b o e => K1 b o e fun _ hp => nomatch hp).here ?_)))
  simp only [Bool.not_true, Bool.false_eq_true, if_false]
  refine wpAny_bind (wpAny_holding ?_)
  k_dflt (refine' special_fn X1 I1 ?k1 ?k2 ?_; (case k1 => k_is); (case k2 => k_is); k_whole)
  refine (tells_linit w (hh.objs.size + 1) hh.objs.size hne l t) mean mg mb _ _ _ _ _ _ _ _ _ _ _ h₀ L m _ _ _ (by decide) (by decide) B F1 X N1 T hck True.intro ?_
  intro v2 h2 tk2 mods2 F2 N2 K2 Fre2 hP2
  obtain ⟨rfl, qa, fx, fd, sm, y1, y2, y3, y4, y5, y6, x1, x2, x3, j1, j2, j3, j4, j5, j6, k1, k2, k3, k4, k5, k6, c1, c2, c3, c4, c5, c6, c7, c8, c9, c10, rfl⟩ := hP2
  refine wpAny_pure ?_
  exact ret (.ref (hh.objs.size + 1)) h2 tk2 _ F2 N2 (kept_made K1 Fre1 K2) (fresh_made K1 Fre1 Fre2) ⟨_, _, qa, fx, fd, sm, y1, y2, y3, y4, y5, y6, x1, x2, x3, j1, j2, j3, j4, j5, j6, k1, k2, k3, k4, k5, k6, rfl, c1, c2, c3, c4, c5, c6, c7, c8, c9, c10, rfl⟩

theorem tells_newLb (w : World) (c : Nat) (l : List Nat) (ha : Ascii (c :: l)) (hl : (c :: l).length ≤ 1000) (t : Tok) : Tells w 648 340 35 (fun _ => True) [] [.bytes (octs (c :: l)) t]
   (fun v mods' => ∃ x dx qa fx fd sm y1 y2 y3 y4 y5 y6 x1 x2 x3 j1 j2 j3 j4 j5 j6 k1 k2 k3 k4 k5 k6, v = .ref x ∧ @Ne Nat x dx ∧ @Ne Nat x qa ∧ @Ne Nat x fx ∧ @Ne Nat x fd ∧ @Ne Nat dx qa ∧ @Ne Nat dx fx ∧ @Ne Nat dx fd ∧ @Ne Nat qa fx ∧ @Ne Nat qa fd ∧ @Ne Nat fx fd ∧ mods' = (sm, methodObj (.ref 645) (.ref x)) :: [(x, instObj 648 dx), (dx, dictOf [⟨y1, .str (Str.ofString "f") j1, .ref fx⟩, ⟨y2, .str (Str.ofString "debug") j2, .bool false⟩, ⟨y3, .str (Str.ofString "q") j3, .ref qa⟩, ⟨y4, .str (Str.ofString "state") j4, .ref sm⟩, ⟨y5, .str (Str.ofString "escaped") j5, .bool false⟩, ⟨y6, .str (Str.ofString "eof") j6, .bool false⟩] 6), (qa, listOf (List.toArray []) 0), (fx, instObj 569 fd), (fd, dictOf [⟨x1, .str (Str.ofString "_StringIO__newline") k1, .str (Str.ofString "\n") k2⟩, ⟨x2, .str (Str.ofString "_StringIO__buf") k3, .str (txt (c :: l)) k4⟩, ⟨x3, .str (Str.ofString "_StringIO__pos") k5, .int 0 k6⟩] 3)]) := by
  intro mean mg mb dp un gd cn cs a ccd cl outer A₀ base h₀ L m s Q E hdp hun B F X N T hck hpre ret
  have kf : (hd.heap_39 w.params).In = (hd.heap_39 w.params).In ∧ PySem.Challenge.rw_gr5003_01 = PySem.Challenge.rw_gr5003_01 := ⟨rfl, rfl⟩
  revert kf
  w_top off
  k_fill
  intro _
  refine wpAny_weaken (A := ktrTop 340 35 none cn cs L a ccd cl outer) ?_ rfl hdp rfl rfl hun
  refine wpAny_call ?_
  have X' : (hd.heap_39 w.params).In s.heap := X.keeps F.keep
  have Y := makes_of (M := model PySem.Challenge.rw_gr5003_01.row.prog w) (C := 648) X' (by kernel_rfl)
  have Y' := Y
  have hi : Looks (model PySem.Challenge.rw_gr5003_01.row.prog w) s.heap (typeLookup (.ref 648) "__init__") (some (.ref 587)) := looks_findIn X' (by kernel_rfl)
  obtain ⟨hh, gg, dd, tk, os⟩ := s
  obtain ⟨⟨oc, od, cd, sl, hC, e1, e2, e4⟩, made, bse, self, top, call, typ⟩ := Y
  refine codeAny_of_tree ?_
  show wpAny _ _ (callAny (.ref 648) _) _ _ _
  refine nd_load hC ?_
  show wpAny _ _ (callAny.viaDunder (.ref 648) _) _ _ _
  unfold callAny.viaDunder
  refine wpAny_bind (call.at ?_)
  dsimp only
  rw [tc_bind]
  refine wpAny_bind (wpAny_pure (wpAny_bind (wpAny_pure ?_)))
  refine wpAny_pure (a := Fin.again (.call (.builtin "type.__call__") ⟨.ref 648 :: [.bytes (octs (c :: l)) t], []⟩)) (And.intro rfl ?_)
  refine codeAny_call_builtin_at (Code.quiet_builtin _ (by decide +kernel)) entry_typeCall (check_slot tc_kind tc_split typ (tc_args _ _ _) ?_)
  unfold Builtin.«type.__call__»
  rw [under_tc]
  have hm : Looks (model PySem.Challenge.rw_gr5003_01.row.prog w) hh (mroOf (.ref 648)) cd.mro := ((Looks.ld (part := none) hC).andThen .now).andThen .now
  repeat (first | simp only [e4, Bool.false_eq_true, if_false] | with_reducible refine wpAny_call ?_ | lk)
  refine new_K Y' hi (.inl rfl) ?_
  have F1 : Fr h₀ L ((hh.push emptyDict).push (instObj 648 hh.objs.size)) m := (F.push _).push _
  have N1 := (N.push F emptyDict).push (F.push emptyDict) (instObj 648 hh.objs.size)
  rw [Heap.size_push] at N1
  have X1 : (hd.heap_39 w.params).In ((hh.push emptyDict).push (instObj 648 hh.objs.size)) := X.keeps F1.keep
  have hne : @Ne Nat (hh.objs.size + 1) hh.objs.size := Nat.succ_ne_self _
  have K1 : Kept hh [] ((hh.push emptyDict).push (instObj 648 hh.objs.size)) := fun b o e _ => Heap.get?_push_of_some _ (Heap.get?_push_of_some _ e)
  have Fre1 : Fresh hh [] [(hh.objs.size + 1, instObj 648 hh.objs.size), (hh.objs.size, dictOf [] 0)] := List.forall_mem_cons.mpr ⟨.inr (Heap.get?_none_of_le (Nat.le_succ _)), List.forall_mem_cons.mpr ⟨.inr (Heap.get?_none_of_le (Nat.le_refl _)), List.forall_mem_nil _⟩⟩
  have I1 : InstAt ((hh.push emptyDict).push (instObj 648 hh.objs.size)) (hh.objs.size + 1) (instObj 648 hh.objs.size) 648 (some (dictOf [] 0)) := by k_inst
  unfold isInstance
  dsimp only
  refine wpAny_bind (wpAny_bind (I1.type.here ((self.keeps fun b o e => K1 b o e fun _ hp => nomatch hp).here ?_)))
  simp only [Bool.not_true, Bool.false_eq_true, if_false]
  refine wpAny_bind (wpAny_holding ?_)
  k_dflt (refine' special_fn X1 I1 ?k1 ?k2 ?_; (case k1 => k_is); (case k2 => k_is); k_whole)
  refine (tells_linitb w (hh.objs.size + 1) hh.objs.size hne c l ha hl t) mean mg mb _ _ _ _ _ _ _ _ _ _ _ h₀ L m _ _ _ (by decide) (by decide) B F1 X N1 T hck True.intro ?_
  intro v2 h2 tk2 mods2 F2 N2 K2 Fre2 hP2
  obtain ⟨rfl, qa, fx, fd, sm, y1, y2, y3, y4, y5, y6, x1, x2, x3, j1, j2, j3, j4, j5, j6, k1, k2, k3, k4, k5, k6, c1, c2, c3, c4, c5, c6, c7, c8, c9, c10, rfl⟩ := hP2
  refine wpAny_pure ?_
  exact ret (.ref (hh.objs.size + 1)) h2 tk2 _ F2 N2 (kept_made K1 Fre1 K2) (fresh_made K1 Fre1 Fre2) ⟨_, _, qa, fx, fd, sm, y1, y2, y3, y4, y5, y6, x1, x2, x3, j1, j2, j3, j4, j5, j6, k1, k2, k3, k4, k5, k6, rfl, c1, c2, c3, c4, c5, c6, c7, c8, c9, c10, rfl⟩

end Mine
end

section
open PySem PySem.W PySem.Calls PyProof.Rows
set_option Elab.async false
set_option maxRecDepth 100000
set_option maxHeartbeats 4000000
namespace Mine

set_option rowWalk.seconds 0

local macro_rules | `(tactic| walk_at "m_go") => `(tactic| repeat' (
  (fail_if_success (with_reducible show PySem.wpAny _ _ (PySem.call (PySem.Value.ref _) _) _ _ _))
  (fail_if_success (with_reducible show PySem.wpAny _ _ (PySem.exec (PySem.Stmt.While _ _ _ _) _) _ _ _))
  (fail_if_success (with_reducible show Mine.EndB _ _ _ _ _ _))
  (first | (k_unfold; (try dsimp only)) | walk1 | (dsimp only; walk1) | fail "no step")))

local macro_rules | `(tactic| walk_at "truthy ref") => `(tactic| (k_here; (with_reducible show PySem.wpAny _ _ (PySem.truthy (PySem.Value.ref _)) _ _ _); k_dflt (refine' my_truthy ?N ?m ?z ?_; (case N => k_asm); (case m => k_mem); (case z => first | omega | (simp only [List.length_cons]; omega)); k_whole); (intro _); (try simp only [List.isEmpty_cons, List.isEmpty_nil, Bool.not_false, Bool.not_true])))
local macro_rules | `(tactic| walk_at "call builtin:list.pop") => `(tactic| (k_here; (with_reducible show PySem.wpAny _ _ (PySem.call (PySem.Value.builtin _) [PySem.Value.ref _, PySem.Value.int _ _]) _ _ _); k_dflt (refine' my_pop0 ?F ?N ?U ?z ?_; (case F => k_asm); (case N => k_asm); (case U => k_upd); (case z => omega)); kl_rest))
local macro_rules | `(tactic| walk_at "call builtin:len") => `(tactic| (k_here; (with_reducible show PySem.wpAny _ _ (PySem.call (PySem.Value.builtin "len") [PySem.Value.ref _]) _ _ _); k_dflt (refine' my_len ?N ?m ?z ?_; (case N => k_asm); (case m => k_mem); (case z => first | omega | (simp only [List.length_cons]; omega)); k_whole); (intro _ _)))

local macro_rules | `(tactic| walk_at "inplaceOp Add str str") => `(tactic| (k_here; (with_reducible show PySem.wpAny _ _ (PySem.inplaceOp PySem.Operator.Add (PySem.Value.str _ _) (PySem.Value.str _ _)) _ _ _); k_dflt (refine' my_iadd_txt ?z ?_; (case z => first | omega | (simp only [List.length_cons, List.length_append, List.length_take, List.length_drop, List.length_nil]; omega)); k_whole); (intro _ _)))
local macro_rules | `(tactic| walk_at "binaryOp Add str str") => `(tactic| (k_here; (with_reducible show PySem.wpAny _ _ (PySem.binaryOp PySem.Operator.Add (PySem.Value.str _ _) (PySem.Value.str _ _)) _ _ _); k_dflt (refine' my_add_txt ?z ?_; (case z => first | omega | (simp only [List.length_cons, List.length_append, List.length_take, List.length_drop, List.length_nil]; omega)); k_whole); (intro _ _)))
local macro_rules | `(tactic| walk_at "subscriptTail Attribute") => `(tactic| (k_here; (with_reducible show PySem.wpAny _ _ (subscriptTail _ _ (PySem.Value.ref _) (PySem.Value.int _ _)) _ _ _); k_dflt (refine' my_item ?N ?m ?a ?b ?c ?_; (case N => k_asm); (case m => k_mem); (case a => omega); (case b => omega); (case c => k_asm))))

local macro_rules | `(tactic| walk_at "call builtin:list.extend") => `(tactic| (k_here; (with_reducible show PySem.wpAny _ _ (PySem.call (PySem.Value.builtin _) [PySem.Value.ref _, PySem.Value.str _ _]) _ _ _); k_dflt (refine' my_extend ?hh ?F ?N ?m ?z ?_; (case hh => exact rfl); (case F => k_asm); (case N => k_asm); (case m => k_mem); (case z => omega)); (intro h' us n' tk F' hus hN); (have N' := hN _ (by k_upd)); clear hN; (try k_sweep)))

local macro_rules | `(tactic| walk_at "call builtin:list.extend") => `(tactic| (k_here; (with_reducible show PySem.wpAny _ _ (PySem.call (PySem.Value.builtin _) [PySem.Value.ref _, PySem.Value.ref _]) _ _ _); k_dflt (refine' my_extend_list ?F ?N ?m ?b ?z ?_; (case F => k_asm); (case N => k_asm); (case m => k_mem); (case b => k_mem); (case z => omega)); (intro h' n' F' hN); (have N' := hN _ (by k_upd)); clear hN; (try k_sweep)))
local macro_rules | `(tactic| walk_at "call type:list") => `(tactic| (k_here; (with_reducible show PySem.wpAny _ _ (PySem.call (PySem.Value.type _) [PySem.Value.str _ _]) _ _ _); k_dflt (refine' my_list_str ?hh ?F ?N ?z ?_; (case hh => exact rfl); (case F => k_asm); (case N => k_asm); (case z => omega)); (intro D h' us n' tk F' hus N' l1); (have hul := Chars.length hus); (try k_lt l1); (try k_sweep)))

local macro_rules | `(tactic| walk_at "subscriptTail Name Slice str ref") => `(tactic| (k_here; (with_reducible show PySem.wpAny _ _ (subscriptTail _ (PySem.Expr.Slice none (some _) none _) (PySem.Value.str (txt _) _) _) _ _ _); (with_reducible rename Fr _ _ _ _ => F'); (with_reducible rename News _ _ _ _ => N'); (refine my_slice_to (s := ⟨_, _, _, _, _⟩) F' N' (by omega) (by first | omega | (simp only [List.length_take, List.length_drop]; omega)) ?_); (intro _ _ _ _ _)))
local macro_rules | `(tactic| walk_at "subscriptTail Name Slice str ref") => `(tactic| (k_here; (with_reducible show PySem.wpAny _ _ (subscriptTail _ (PySem.Expr.Slice (some _) none none _) (PySem.Value.str (txt _) _) _) _ _ _); (with_reducible rename Fr _ _ _ _ => F'); (with_reducible rename News _ _ _ _ => N'); (refine my_slice_from (s := ⟨_, _, _, _, _⟩) F' N' (by omega) (by first | omega | (simp only [List.length_take, List.length_drop]; omega)) ?_); (intro _ _ _ _ _)))
local macro_rules | `(tactic| walk_at "call builtin:len") => `(tactic| (k_here; (with_reducible show PySem.wpAny _ _ (PySem.call (PySem.Value.builtin "len") [PySem.Value.str (txt _) _]) _ _ _); (refine my_len_txt (by first | omega | (simp only [List.length_take, List.length_drop]; omega)) ?_); (intro _ _)))

theorem tells_num (w : World) (l : Addr) (vs : List Value) (ns : List Int) (hi : IntsAre vs ns) (hn : ns.length ≤ 63) (p : Int) (t : Tok) (hp : 0 ≤ p) (hp2 : p ≤ 1000) : Tells w 666 360 40 (fun h => h.IsList l vs.toArray) [] [.ref l, .int p t]
   (fun v mods' => (∃ z t', v = .int z t') ∧ mods' = []) := by
  have kf : (hd.heap_39 w.params).In = (hd.heap_39 w.params).In ∧ PySem.Challenge.rw_gr5003_01 = PySem.Challenge.rw_gr5003_01 := ⟨rfl, rfl⟩
  revert kf
  w_top off
  k_fill
  intro _
  refine' tells_of_body (binds := [(Str.ofString "script", .ref l), (Str.ofString "place", .int p t)]) ?ho ?hcd (by decide) (fun _ _ k x => x.elim fun o hx => ⟨o, k _ _ hx.1, hx.2⟩) ?hb ?hl ?hc ?h1 ?h2 ?h3 ?body
  case ho => k_dflt k_is
  case hcd => k_dflt k_is
  case hb => intro s X; first | exact BindsTo.of_eq rfl | exact binds_K X rfl (by k_dflt k_is) rfl rfl rfl
  case hl => exact locs rfl
  case hc => decide
  case h1 => rfl
  case h2 => rfl
  case h3 => rfl
  intro mean mg mb outer base g L' s A₀ B F X N T PR LT
  try dsimp only
  k_fold
  have LT2 := allLt_of LT
  simp only [AllLt, and_true] at LT2

  have PR' := PR
  k_steps
  all_goals exact endB_of (by assumption) (by assumption) ⟨⟨_, _, rfl⟩, rfl⟩
theorem tells_backs (w : World) : Tells w 659 350 40 (fun _ => True) [] []
   (fun v mods' => ∃ q t1 t2 t3 t4 n, v = .ref q ∧ mods' = [(q, listOf #[.str (Str.ofString "") t1, .str (Str.ofString "q") t2, .str (Str.ofString "rs") t3, .str (Str.ofString "tuv") t4] n)]) := by
  have kf : (hd.heap_39 w.params).In = (hd.heap_39 w.params).In ∧ PySem.Challenge.rw_gr5003_01 = PySem.Challenge.rw_gr5003_01 := ⟨rfl, rfl⟩
  revert kf
  w_top off
  k_fill
  intro _
  refine' tells_of_body (binds := []) ?ho ?hcd (by decide) (fun _ _ _ h => h) ?hb ?hl ?hc ?h1 ?h2 ?h3 ?body
  case ho => k_dflt k_is
  case hcd => k_dflt k_is
  case hb => intro s X; first | exact BindsTo.of_eq rfl | exact binds_K X rfl (by k_dflt k_is) rfl rfl rfl
  case hl => exact locs rfl
  case hc => decide
  case h1 => rfl
  case h2 => rfl
  case h3 => rfl
  intro mean mg mb outer base g L' s A₀ B F X N T PR LT
  try dsimp only
  k_fold
  have LT2 := allLt_of LT
  simp only [AllLt, and_true] at LT2

  k_steps
  exact endB_of (by assumption) (by assumption) ⟨_, _, _, _, _, _, rfl, rfl⟩
end Mine
end

section
open PySem PySem.W PySem.Calls PyProof.Rows
set_option Elab.async false
set_option maxRecDepth 100000
set_option maxHeartbeats 4000000
namespace Mine
theorem tells_of_bodyC {w : World} {f : Addr} {DP UN : Nat} {args : List Value} {Post : Value → Led → Prop}
    {name qual : Str} {params : Arguments} {body : List Stmt} {scope : Scope} {dV kV doc pm cdv ct oc : Value} {an od : Option Addr} {osl : Array (Option Value)} {binds : List (Str × Value)}
    (ho : (hd.heap_39 w.params).lookup f = some ⟨oc, od, .func (fnOf name qual params body scope dV kV doc pm an cdv ct), osl⟩)
    (hcd : codeIn (hd.heap_39 w.params) cdv qual = true) (hroom : DP < recursionLimit)
    (hbind : ∀ s : Shared, (hd.heap_39 w.params).In s.heap → BindsTo s (fnOf name qual params body scope dV kV doc pm an cdv ct) ⟨args, []⟩ binds)
    (hkind : (binds.all fun y => scope.names.lookup y.1 == some .local || scope.names.lookup y.1 == some .cell) = true)
    (hnd : ((cellsFrom 0 scope.names []).map (·.1)).Nodup) (hco : scope.isCoroutine = false) (hgen : scope.isGenerator = false) (hk : scope.kind = .function)
    (hbody : ∀ (mean : ExcName → Option Value) (mg mb : Str → Option Value) (outer : List Env) (base g : Heap) (L' : Addr) (cells : Led) (s : Shared) (A₀ : Around),
      Below A₀ base outer g → Fr g L' s.heap (bindL (envOfC qual scope L' f cdv).kindOf binds fun _ => none) → (hd.heap_39 w.params).In g → News g L' s.heap cells →
      CellsAre (bindC (envOfC qual scope L' f cdv).kindOf binds fun _ => none) (cellsFrom (L' + 1) scope.names []) cells → Top hd.view_39 LOO mean mg mb g →
      wpAny (model PySem.Challenge.rw_gr5003_01.row.prog w) (ktrTop (DP + 1) (UN + 3) none qual scope L' f cdv (cellsFrom (L' + 1) scope.names []) outer) (execs body (envX qual scope L' f cdv (cellsFrom (L' + 1) scope.names [])))
        (fun fl s' => EndB g L' s Post (match fl with | .ret v => v | _ => .none) s') (fun _ _ => False) s) :
    Tells w f DP UN (fun _ => True) [] args Post := by
  intro mean mg mb dp un gd cn cs a ccd cl outer A₀ base h₀ L m s Q E hdp hun B F X N T hck hpre ret
  refine wpAny_weaken (A := ktrTop DP UN none cn cs L a ccd cl outer) ?_ rfl hdp rfl rfl hun
  refine wpAny_call ?_
  have X' : (hd.heap_39 w.params).In s.heap := X.keeps F.keep
  obtain ⟨FG, BG, st, lv⟩ := groundX (R := fun r s' => match r with | .ok (.ret v) => Q v s' | .ok _ => False | .error e => E e s') (A := ktrTop DP UN none cn cs L a ccd cl outer) (env := envX cn cs L a ccd cl) B F N rfl rfl hck
  refine codeAny_call_function (fd := fnOf name qual params body scope dV kV doc pm an cdv ct) hroom (X' _ _ ho) rfl hco hgen rfl (codeRec_of X' hcd) (hbind s X' _ _ _ _ ?_)
  refine wpAny_newFunctionEnv_cells hk (kindsX hkind _) fun env' he s' x => ?_
  subst he
  refine ⟨(T.nolimit.keeps F.keep).keeps x.toInCall.keep, codeAny_func ?_⟩
  obtain ⟨h₁, tk, rfl, _⟩ := x.done
  have hk₁ := x.toInCall.keep
  obtain ⟨cells, NC, Y⟩ := Cl.news (h₀ := s.heap) (Nat.le_refl _) fun n c hm => ⟨x.cell n c (lookup_of_mem_nodup (cellsFrom_names scope.names 0 (s.heap.objs.size + 1) [] [] rfl ▸ hnd) hm), x.above n c hm⟩
  have key := hbody mean mg mb (envX cn cs L a ccd cl :: outer) base (hideAll s.heap []) s.heap.objs.size cells { s with heap := h₁, toks := tk } _ BG
    ⟨x.toInCall.ns, fun b o e => hk₁ b o (of_hideAll _ e), Nat.le_of_eq (hideAll_size _ _)⟩ (X.keeps st) NC Y (T.keeps st)
  refine wpAny_mono key (fun fl s' hl => ?_) fun _ _ x => x.elim
  obtain ⟨h', tk', m', mods', rfl, F', N', hP⟩ := hl
  refine lv _ _ ⟨_, m', mods', F', N', fun FF NN => ?_⟩
  refine ret _ _ _ mods' FF NN (fun b o e _ => F'.keep b o e) (fun p hp => .inr ?_) hP
  exact (N' p hp).2.2

inductive Asc : List Value → List Nat → Prop
  | nil : Asc [] []
  | cons (c : Nat) (t : Tok) (hc : c < 128) {vs : List Value} {cs : List Nat} (h : Asc vs cs) : Asc (.str ⟨#[c]⟩ t :: vs) (c :: cs)
theorem Asc.ascii {vs : List Value} {cs : List Nat} (h : Asc vs cs) : Ascii cs := by
  induction h with
  | nil => exact fun _ hx => nomatch hx
  | cons c t hc _ ih =>
    intro x hx
    rcases List.mem_cons.mp hx with rfl | hx
    · exact hc
    · exact ih x hx
theorem Asc.length {vs : List Value} {cs : List Nat} (h : Asc vs cs) : vs.length = cs.length := by induction h with | nil => rfl | cons => simp_all
theorem Asc.append {vs us : List Value} {cs ds : List Nat} (h : Asc vs cs) (k : Asc us ds) : Asc (vs ++ us) (cs ++ ds) := by
  induction h with
  | nil => exact k
  | cons c t hc _ ih => exact .cons c t hc ih
def TxEl (news : Led) (y : Value) (news' : Led) : Prop := news' = news ∧ ∃ (c : Nat) (t : Tok), y = .str ⟨#[c]⟩ t ∧ c < 128
theorem Asc.strs {vs : List Value} {cs : List Nat} (h : Asc vs cs) : ∃ ps : List (Str × Tok), vs = strValues ps ∧ ps.map (·.1) = cs.map fun c => (⟨#[c]⟩ : Str) := by
  induction h with
  | nil => exact ⟨[], rfl, rfl⟩
  | cons c t hc _ ih =>
    obtain ⟨ps, rfl, e⟩ := ih
    exact ⟨(⟨#[c]⟩, t) :: ps, rfl, by simp [e]⟩
theorem glue_fold : ∀ (l : List Nat) (acc : Array Nat), (l.map fun c => (⟨#[c]⟩ : Str)).foldl (fun acc p => acc ++ (Str.ofString "").cps ++ p.cps) acc = acc ++ l.toArray
  | [], acc => by simp
  | c :: l, acc => by
    rw [List.map_cons, List.foldl_cons, glue_fold l]
    have : (Str.ofString "").cps = #[] := by decide +kernel
    rw [this]; simp
theorem glue_txt (l : List Nat) : Txt.join (Str.ofString "") (l.map fun c => (⟨#[c]⟩ : Str)) = txt l := by
  cases l with
  | nil => rfl
  | cons c l =>
    show (⟨_⟩ : Str) = ⟨_⟩
    congr 1
    rw [List.map_cons, List.drop_succ_cons, List.drop_zero, glue_fold]
    simp
theorem join_fold : ∀ (l : List Nat) (k : Nat), (l.map fun c => (⟨#[c]⟩ : Str)).foldl (fun (n : Nat) (x : Str) => n + x.length + (Str.ofString "").length) k = k + l.length
  | [], k => rfl
  | c :: l, k => by
    rw [List.map_cons, List.foldl_cons, join_fold l]
    have h1 : (Str.ofString "").length = 0 := by decide +kernel
    have h2 : (⟨#[c]⟩ : Str).length = 1 := rfl
    rw [h1, h2, List.length_cons]; omega
theorem join_ok {l : List Nat} (hl : l.length ≤ 1000) : JoinOk (Str.ofString "") (l.map fun c => (⟨#[c]⟩ : Str)) = true := by
  unfold JoinOk
  rw [List.foldl_toArray]
  have := join_fold l 0
  rw [this]
  unfold Builtin.Str.tooLong
  rw [sizeLine_eq]
  simp; omega
theorem tx_item (j : Int) (h0 : 0 ≤ j) (h7 : j < 7) : ∃ c : Nat, Txt.item (Str.ofString "ab \n\"x9") j = ⟨#[c]⟩ ∧ c < 128 := by
  have h : j = 0 ∨ j = 1 ∨ j = 2 ∨ j = 3 ∨ j = 4 ∨ j = 5 ∨ j = 6 := by omega
  rcases h with rfl | rfl | rfl | rfl | rfl | rfl | rfl <;> exact ⟨_, rfl, by decide +kernel⟩
theorem txel_of {news : Led} {y : Value} {j : Int} {t : Tok} (h0 : 0 ≤ j) (h7 : j < 7) (e : y = .str (Txt.item (Str.ofString "ab \n\"x9") j) t) : TxEl news y news := by
  obtain ⟨c, hc, hl⟩ := tx_item j h0 h7
  exact ⟨rfl, c, t, by rw [e, hc], hl⟩
section
variable {prog : Program} {w : World} {A : Around} {E : Value → Shared → Prop} {s : Shared} {h₀ : Heap} {L : Addr} {news : Led}
theorem my_join {D : Addr} {ys : List Value} {l : List Nat} {t : Tok} {Q : Value → Shared → Prop} (N : News h₀ L s.heap news) (hm : (D, LCg.lst ys) ∈ news) (hy : Asc ys l) (hl : l.length ≤ 1000)
    (h : ∀ t' k, Q (.str (txt l) t') { s with toks := k }) : wpAny (model prog w) A (call (.builtin "str.join") [.str (Str.ofString "") t, .ref D]) Q E s := by
  obtain ⟨ps, rfl, e⟩ := hy.strs
  refine SC.join (l := ps) (texts := _) ⟨_, (N _ hm).1, rfl, _, rfl⟩ e (join_ok hl) fun t' k => ?_
  rw [glue_txt]; exact h t' k
end
section
variable {prog : Program} {w : World} {A : Around} {h₀ : Heap} {L : Addr} {m : Str → Option Value} {env : Env} {elt : Expr} {x : Str} {scope : Scope} {cl : List (Str × Addr)} {s : Shared} {S : Led → Prop} {Fin : List Value → Led → Prop} {news : Led}
theorem tx_range {n : Nat} {a : Int}
    (turn : ∀ k t I oI C oC D m₂ ys h tk (E' : Value → Shared → Prop), a ≤ k → k < a + (n : Int) → LCg.NsObj oC m₂ → m₂ x = some (.int k t) → Fr h₀ L h m → News h₀ L h ((I, oI) :: (C, oC) :: (D, LCg.lst ys) :: news) → LCg.Off3 I C D news → ((@Ne Nat I C) ∧ (@Ne Nat I D) ∧ (@Ne Nat C D)) →
      wpAny (model prog w) A (eval elt (compEnvC scope cl C env)) (LCg.CompEnd h₀ L m { s with heap := h, toks := tk } I oI C oC D (LCg.lst ys) S (fun y news' => TxEl news y news')) E' { s with heap := h, toks := tk })
    (fin : ∀ ys l, Asc ys l → l.length = n → Fin ys news) : LCg.CompRest prog w A h₀ L m env elt x scope cl s S (fun i v => ∃ t, v = .int (a + (i : Int)) t) Fin n 0 [] news := by
  have key : ∀ (j i : Nat) (ys : List Value) (l : List Nat), i + j = n → Asc ys l → l.length = i → LCg.CompRest prog w A h₀ L m env elt x scope cl s S (fun i v => ∃ t, v = .int (a + (i : Int)) t) Fin j i ys news := by
    intro j
    induction j with
    | zero => exact fun i ys l hi hy hl => LCg.CompRest.zero (fin ys l hy (by omega))
    | succ j ih =>
      intro i ys l hi hy hl
      refine LCg.CompRest.succ ?_
      intro v I oI C oC D m₂ h tk E' hv hC hx F N off ne
      obtain ⟨t, rfl⟩ := hv
      refine wpAny_mono (turn _ t I oI C oC D m₂ ys h tk E' (by omega) (by omega) hC hx F N off ne) (fun y s₂ hq => ?_) fun _ _ e => e
      obtain ⟨h', tk', nw, e, F', N', off', hS, hn, c, t', hy', hc⟩ := hq
      subst hn
      refine ⟨h', tk', nw, e, F', N', off', hS, ?_⟩
      rw [hy']
      exact ih (i + 1) _ (l ++ [c]) (by omega) (Asc.append hy (.cons c t' hc .nil)) (by simp; omega)
  exact key n 0 [] [] (by omega) .nil rfl
end
end Mine
end

section
open PySem PySem.W PySem.Calls PyProof.Rows
set_option Elab.async false
set_option maxRecDepth 100000
set_option maxHeartbeats 4000000
namespace Mine

set_option rowWalk.seconds 0

local macro_rules | `(tactic| walk_at "m_go") => `(tactic| repeat' (
  (fail_if_success (with_reducible show PySem.wpAny _ _ (PySem.call (PySem.Value.ref _) _) _ _ _))
  (fail_if_success (with_reducible show PySem.wpAny _ _ (PySem.exec (PySem.Stmt.While _ _ _ _) _) _ _ _))
  (fail_if_success (with_reducible show Mine.EndB _ _ _ _ _ _))
  (first | (k_unfold; (try dsimp only)) | walk1 | (dsimp only; walk1) | fail "no step")))

local macro_rules | `(tactic| walk_at "truthy ref") => `(tactic| (k_here; (with_reducible show PySem.wpAny _ _ (PySem.truthy (PySem.Value.ref _)) _ _ _); k_dflt (refine' my_truthy ?N ?m ?z ?_; (case N => k_asm); (case m => k_mem); (case z => first | omega | (simp only [List.length_cons]; omega)); k_whole); (intro _); (try simp only [List.isEmpty_cons, List.isEmpty_nil, Bool.not_false, Bool.not_true])))
local macro_rules | `(tactic| walk_at "call builtin:list.pop") => `(tactic| (k_here; (with_reducible show PySem.wpAny _ _ (PySem.call (PySem.Value.builtin _) [PySem.Value.ref _, PySem.Value.int _ _]) _ _ _); k_dflt (refine' my_pop0 ?F ?N ?U ?z ?_; (case F => k_asm); (case N => k_asm); (case U => k_upd); (case z => omega)); kl_rest))
local macro_rules | `(tactic| walk_at "call builtin:len") => `(tactic| (k_here; (with_reducible show PySem.wpAny _ _ (PySem.call (PySem.Value.builtin "len") [PySem.Value.ref _]) _ _ _); k_dflt (refine' my_len ?N ?m ?z ?_; (case N => k_asm); (case m => k_mem); (case z => first | omega | (simp only [List.length_cons]; omega)); k_whole); (intro _ _)))

local macro_rules | `(tactic| walk_at "inplaceOp Add str str") => `(tactic| (k_here; (with_reducible show PySem.wpAny _ _ (PySem.inplaceOp PySem.Operator.Add (PySem.Value.str _ _) (PySem.Value.str _ _)) _ _ _); k_dflt (refine' my_iadd_txt ?z ?_; (case z => first | omega | (simp only [List.length_cons, List.length_append, List.length_take, List.length_drop, List.length_nil]; omega)); k_whole); (intro _ _)))
local macro_rules | `(tactic| walk_at "binaryOp Add str str") => `(tactic| (k_here; (with_reducible show PySem.wpAny _ _ (PySem.binaryOp PySem.Operator.Add (PySem.Value.str _ _) (PySem.Value.str _ _)) _ _ _); k_dflt (refine' my_add_txt ?z ?_; (case z => first | omega | (simp only [List.length_cons, List.length_append, List.length_take, List.length_drop, List.length_nil]; omega)); k_whole); (intro _ _)))
local macro_rules | `(tactic| walk_at "subscriptTail Attribute") => `(tactic| (k_here; (with_reducible show PySem.wpAny _ _ (subscriptTail _ _ (PySem.Value.ref _) (PySem.Value.int _ _)) _ _ _); k_dflt (refine' my_item ?N ?m ?a ?b ?c ?_; (case N => k_asm); (case m => k_mem); (case a => omega); (case b => omega); (case c => k_asm))))

local macro_rules | `(tactic| walk_at "call builtin:list.extend") => `(tactic| (k_here; (with_reducible show PySem.wpAny _ _ (PySem.call (PySem.Value.builtin _) [PySem.Value.ref _, PySem.Value.str _ _]) _ _ _); k_dflt (refine' my_extend ?hh ?F ?N ?m ?z ?_; (case hh => exact rfl); (case F => k_asm); (case N => k_asm); (case m => k_mem); (case z => omega)); (intro h' us n' tk F' hus hN); (have N' := hN _ (by k_upd)); clear hN; (try k_sweep)))

local macro_rules | `(tactic| walk_at "call builtin:list.extend") => `(tactic| (k_here; (with_reducible show PySem.wpAny _ _ (PySem.call (PySem.Value.builtin _) [PySem.Value.ref _, PySem.Value.ref _]) _ _ _); k_dflt (refine' my_extend_list ?F ?N ?m ?b ?z ?_; (case F => k_asm); (case N => k_asm); (case m => k_mem); (case b => k_mem); (case z => omega)); (intro h' n' F' hN); (have N' := hN _ (by k_upd)); clear hN; (try k_sweep)))
local macro_rules | `(tactic| walk_at "call type:list") => `(tactic| (k_here; (with_reducible show PySem.wpAny _ _ (PySem.call (PySem.Value.type _) [PySem.Value.str _ _]) _ _ _); k_dflt (refine' my_list_str ?hh ?F ?N ?z ?_; (case hh => exact rfl); (case F => k_asm); (case N => k_asm); (case z => omega)); (intro D h' us n' tk F' hus N' l1); (have hul := Chars.length hus); (try k_lt l1); (try k_sweep)))

local macro_rules | `(tactic| walk_at "subscriptTail Name Slice str ref") => `(tactic| (k_here; (with_reducible show PySem.wpAny _ _ (subscriptTail _ (PySem.Expr.Slice none (some _) none _) (PySem.Value.str (txt _) _) _) _ _ _); (with_reducible rename Fr _ _ _ _ => F'); (with_reducible rename News _ _ _ _ => N'); (refine my_slice_to (s := ⟨_, _, _, _, _⟩) F' N' (by omega) (by first | omega | (simp only [List.length_take, List.length_drop]; omega)) ?_); (intro _ _ _ _ _)))
local macro_rules | `(tactic| walk_at "subscriptTail Name Slice str ref") => `(tactic| (k_here; (with_reducible show PySem.wpAny _ _ (subscriptTail _ (PySem.Expr.Slice (some _) none none _) (PySem.Value.str (txt _) _) _) _ _ _); (with_reducible rename Fr _ _ _ _ => F'); (with_reducible rename News _ _ _ _ => N'); (refine my_slice_from (s := ⟨_, _, _, _, _⟩) F' N' (by omega) (by first | omega | (simp only [List.length_take, List.length_drop]; omega)) ?_); (intro _ _ _ _ _)))
local macro_rules | `(tactic| walk_at "call builtin:len") => `(tactic| (k_here; (with_reducible show PySem.wpAny _ _ (PySem.call (PySem.Value.builtin "len") [PySem.Value.str (txt _) _]) _ _ _); (refine my_len_txt (by first | omega | (simp only [List.length_take, List.length_drop]; omega)) ?_); (intro _ _)))

local macro_rules | `(tactic| walk_at "CompSrc") => `(tactic| (k_here; (try k_fmods); (try kcf_lens); k_dflt (refine LCg.CompSrc.range (by rfl) (by k_asm) (by k_asm) (by assumption) (by first | exact small_one (by kcf_bnd) (by kcf_bnd) (by kcf_bnd) (by kcf_bnd) | decide) (by first | exact rangeSize_nat _ _ | rfl) (by first | exact Nat.le_of_ble_eq_true rfl | (rw [PySem.sizeLine_eq]; omega)) ?_; intro g'; (refine' tx_range (fun k' t' I' oI' C' oC' D' m' ys' h' tk' E' hlo' hhi' hC' hx' F' N' off' ne' => ?_) (fun ys' l' hasc' hlen' => ?_)); (all_goals (try (simp only [LCg.Off3, and_true] at off'))); kcf_last)))

theorem tells_text (w : World) (z : Int) (t : Tok) (n : Int) (u : Tok) (hn : 0 ≤ n) (hn2 : n ≤ 12) : Tells w 671 350 40 (fun _ => True) [] [.int z t, .int n u]
   (fun v mods' => (∃ l t', v = .str (txt l) t' ∧ l.length ≤ 12 ∧ Ascii l) ∧ mods' = []) := by
  have kf : (hd.heap_39 w.params).In = (hd.heap_39 w.params).In ∧ PySem.Challenge.rw_gr5003_01 = PySem.Challenge.rw_gr5003_01 := ⟨rfl, rfl⟩
  revert kf
  w_top off
  k_fill
  intro _
  refine' tells_of_bodyC (binds := [(Str.ofString "drawn", .int z t), (Str.ofString "size", .int n u)]) ?ho ?hcd (by decide) ?hb ?hl ?hn ?h1 ?h2 ?h3 ?body
  case ho => k_dflt k_is
  case hcd => k_dflt k_is
  case hb => intro s X; first | exact BindsTo.of_eq rfl | exact binds_K X rfl (by k_dflt k_is) rfl rfl rfl
  case hl => exact rfl
  case hn => decide +kernel
  case h1 => rfl
  case h2 => rfl
  case h3 => rfl
  intro mean mg mb outer base g L' cells' s A₀ B F X N Y T
  k_cells Y
  try simp only [List.cons_append, List.nil_append] at N
  try dsimp only
  show wpAny _ _ _ _ _ _
  k_fold

  walk_at "m_go"
  · exact txel_of (fmod_lo _ (by decide)) (fmod_hi _ (by decide)) rfl
  · refine my_join (by assumption) (.head _) (by assumption) (by omega) fun t' k' => ?_
    k_unfold
    dsimp only
    exact endB_of (by assumption) (List.forall_mem_nil _) ⟨⟨_, _, rfl, by omega, Asc.ascii (by assumption)⟩, rfl⟩
end Mine
end

section
open PySem PySem.W PySem.Calls PyProof.Rows
set_option Elab.async false
set_option maxRecDepth 100000
set_option maxHeartbeats 4000000
namespace Mine
def TurnB (h₀ : Heap) (L : Addr) (s₁ : Shared) (I : Addr) (oI : Obj) (Jn : (Str → Option Value) → Led → Prop) (Q : Flow → Shared → Prop) (f : Flow) (s₂ : Shared) : Prop :=
  match f with
  | .ret v => Q (.ret v) s₂
  | .next => ∃ h' tk m₂ news₂, s₂ = { s₁ with heap := h', toks := tk } ∧ Fr h₀ L h' m₂ ∧ News h₀ L h' ((I, oI) :: news₂) ∧ (∀ p ∈ news₂, p.1 ≠ I) ∧ Jn m₂ news₂
  | _ => False
theorem turnB_next {h₀ : Heap} {L : Addr} {s₁ : Shared} {I : Addr} {oI : Obj} {Jn : (Str → Option Value) → Led → Prop} {Q : Flow → Shared → Prop} {h' : Heap} {tk : Nat} {m₂ : Str → Option Value} {all : Led}
    (F : Fr h₀ L h' m₂) (N : News h₀ L h' all) (news₂ : Led) (hs : ∀ p ∈ (I, oI) :: news₂, p ∈ all) (ne : ∀ p ∈ news₂, p.1 ≠ I) (j : Jn m₂ news₂) : TurnB h₀ L s₁ I oI Jn Q .next { s₁ with heap := h', toks := tk } :=
  ⟨h', tk, m₂, news₂, rfl, F, fun p hp => N p (hs p hp), ne, j⟩
section
variable {prog : Program} {w : World} {A : Around} {E : Value → Shared → Prop} {Q : Flow → Shared → Prop} {s : Shared} {env : Env} {h₀ : Heap} {x : Str} {body : List Stmt} {m : Str → Option Value} {news : Led}
theorem range_loop {r : Addr} {b : Int} {t u v : Tok} {n : Nat} (hh : A.handled = none) (F : Fr h₀ env.locals s.heap m) (N : News h₀ env.locals s.heap news) (hr : IsRange s.heap r 0 b 1 t u v)
    (hsm : Builtin.Range.small 0 b 1 = true) (hn : Builtin.Range.rangeSize 0 b 1 = (n : Int)) (J : Nat → (Str → Option Value) → Led → Prop) (h0 : J 0 m news)
    (step : ∀ i t m₁ news₁ h₁ tk₁ I oI, i < n → J i m₁ news₁ → (∀ p ∈ news₁, p.1 ≠ I) → Fr h₀ env.locals h₁ (fun y => if y = x then some (.int (i : Int) t) else m₁ y) → News h₀ env.locals h₁ ((I, oI) :: news₁) →
      wpAny (model prog w) A (execs body env) (TurnB h₀ env.locals { s with heap := h₁, toks := tk₁ } I oI (J (i + 1)) Q) E { s with heap := h₁, toks := tk₁ })
    (fin : ∀ h' tk m' news', Fr h₀ env.locals h' m' → News h₀ env.locals h' news' → J n m' news' → Q .next { s with heap := h', toks := tk }) :
    wpAny (model prog w) A (pyIter (.ref r)) (fun it s₂ => LoopAtV prog w A h₀ env x body Q E it s₂) E s := by
  refine wpAny_pyIter_range hr hsm ?_
  rw [hn]
  refine ⟨s.heap.objs.size, [s.heap.objs.size], [s.heap.objs.size], n, _, _, m, news, J, rfl, LCg.range_walks hh 0 n, ?_, ?_, ?_, ?_, F.push _, ?_, h0, ?_, ?_⟩
  · exact fun h => Nat.ne_of_lt F.ns.lt (List.mem_singleton.mp h)
  · exact fun b hb => by rw [List.mem_singleton.mp hb]; exact (next_is_new F)
  · exact fun p hp hb => N.apart p hp (List.mem_singleton.mp hb)
  · have e := Heap.get?_push_size (h := s.heap) (o := { cls := .type "range_iterator", data := .fields #[rawInt 0, rawInt (n : Int), rawInt 1] }) rfl
    simpa [IsRangeIter] using e
  · exact fun p hp => ⟨Heap.get?_push_of_some _ (N p hp).1, (N p hp).2⟩
  · rintro i v m₁ news₁ s₁ own ⟨h₁, tk₁, rfl⟩ hi ⟨tv, rfl⟩ hJ hoff hfp hget hall hst F₁ N₁
    obtain ⟨oI, hoI⟩ : ∃ oI, h₁.get? s.heap.objs.size = some oI := ⟨_, hst⟩
    rw [Int.zero_add] at F₁
    have hI := hall _ (.head _) (next_is_new F) oI hoI
    refine wpAny_mono (step i tv m₁ news₁ h₁ tk₁ s.heap.objs.size oI hi hJ (fun p hp q => hoff p hp (by rw [q]; exact .head _)) F₁ (fun p hp => ?_)) (fun f s₂ hf => ?_) fun _ _ e => e
    · rcases List.mem_cons.mp hp with rfl | hp
      · exact N₁ _ (List.mem_append_left _ hI)
      · exact N₁ p (List.mem_append_right _ hp)
    · cases f with
      | ret v => exact hf
      | brk => exact hf.elim
      | cont => exact hf.elim
      | next =>
        obtain ⟨h', tk, m₂, news₂, rfl, F₂, N₂, ne, j⟩ := hf
        refine ⟨rfl, h', tk, m₂, news₂, rfl, F₂, fun p hp => ?_, fun p hp hb => ne p hp (List.mem_singleton.mp hb), j⟩
        rcases List.mem_append.mp hp with hp | hp
        · have e1 := List.mem_singleton.mp (hfp p hp)
          have e2 := hget p hp
          have : p = (s.heap.objs.size, oI) := by
            obtain ⟨a, o⟩ := p
            simp only at e1 e2
            subst e1
            rw [hoI] at e2
            exact Prod.ext rfl (Option.some.inj e2).symm
          rw [this]; exact N₂ _ (.head _)
        · exact N₂ p (.tail _ hp)
  · exact fun h' tk m' news' F' N' _ j => fin h' tk m' news' F' N' j

theorem list_loop {target : Expr} {ax : Addr} {items : Array Value} {k : Nat} (hh : A.handled = none) (F : Fr h₀ env.locals s.heap m) (N : News h₀ env.locals s.heap news) (hm : (ax, listOf items k) ∈ news)
    (J : Nat → (Str → Option Value) → Led → Prop) (h0 : J 0 m news) (hJm : ∀ i m news, J i m news → (ax, listOf items k) ∈ news)
    (step : ∀ i v m₁ news₁ h₁ tk₁ I oI, items[i]? = some v → J i m₁ news₁ → (∀ p ∈ news₁, p.1 ≠ I) → Fr h₀ env.locals h₁ m₁ → News h₀ env.locals h₁ ((I, oI) :: news₁) →
      wpAny (model prog w) A (assign target env v) (fun _ s₃ => wpAny (model prog w) A (execs body env) (TurnB h₀ env.locals { s with heap := h₁, toks := tk₁ } I oI (J (i + 1)) Q) E s₃) E { s with heap := h₁, toks := tk₁ })
    (fin : ∀ h' tk m' news', Fr h₀ env.locals h' m' → News h₀ env.locals h' news' → J items.size m' news' → Q .next { s with heap := h', toks := tk }) :
    wpAny (model prog w) A (pyIter (.ref ax)) (fun it s₂ => TurnsAt prog w A h₀ env target body Q E it s₂) E s := by
  have hl : s.heap.IsList ax items := ⟨_, (N _ hm).1, rfl, _, rfl⟩
  have hne : ax ≠ s.heap.objs.size := Nat.ne_of_lt (Heap.lt_size (N _ hm).1)
  refine wpAny_pyIter_list hl ?_
  refine ⟨s.heap.objs.size, [s.heap.objs.size, ax], [s.heap.objs.size], items.size, _, _, _, m, news, J, rfl, KTurns.ofWalks (Walks.list hh s.heap.objs.size ax hne items) (fun i v s Q E st q => letGo_listiter st.1 q), ?_, ?_, ?_, ?_, F.push _, ?_, h0, ?_, ?_⟩
  · intro h
    rcases List.mem_cons.mp h with h | h
    · exact Nat.ne_of_lt F.ns.lt h
    · exact (N _ hm).2.1 (List.mem_singleton.mp h).symm
  · exact fun b hb => by rw [List.mem_singleton.mp hb]; exact (next_is_new F)
  · exact fun p hp hb => N.apart p hp (List.mem_singleton.mp hb)
  · exact ⟨⟨_, Heap.get?_push_size _ rfl, rfl, rfl⟩, hl.push _⟩
  · exact fun p hp => ⟨Heap.get?_push_of_some _ (N p hp).1, (N p hp).2⟩
  · rintro i v m₁ news₁ h₁ tk₁ own hi hv hJ hoff hfp hget hall hst F₁ N₁
    obtain ⟨oI, hoI, -⟩ := hst.1
    have hI := hall _ (.head _) (next_is_new F) oI hoI
    refine wpAny_mono (step i v m₁ news₁ h₁ tk₁ s.heap.objs.size oI hv hJ (fun p hp q => hoff p hp (by rw [q]; exact .head _)) F₁ (fun p hp => ?_)) (fun _ s₃ h₃ => wpAny_mono h₃ (fun f s₂ hf => ?_) fun _ _ e => e) fun _ _ e => e
    · rcases List.mem_cons.mp hp with rfl | hp
      · exact N₁ _ (List.mem_append_left _ hI)
      · exact N₁ p (List.mem_append_right _ hp)
    · cases f with
      | ret v => exact hf
      | brk => exact hf.elim
      | cont => exact hf.elim
      | next =>
        obtain ⟨h', tk, m₂, news₂, rfl, F₂, N₂, ne, j⟩ := hf
        refine ⟨rfl, h', tk, m₂, news₂, rfl, F₂, fun p hp => ?_, fun p hp hb => ne p hp (List.mem_singleton.mp hb), j⟩
        rcases List.mem_append.mp hp with hp | hp
        · have e2 := hget p hp
          rcases List.mem_cons.mp (hfp p hp) with e1 | e1
          · have : p = (s.heap.objs.size, oI) := by
              obtain ⟨a, o⟩ := p
              simp only at e1 e2
              subst e1
              rw [hoI] at e2
              exact Prod.ext rfl (Option.some.inj e2).symm
            rw [this]; exact N₂ _ (.head _)
          · have e1 := List.mem_singleton.mp e1
            have e3 := (N₁ _ (List.mem_append_right _ (hJm _ _ _ hJ))).1
            have : p = (ax, listOf items k) := by
              obtain ⟨a, o⟩ := p
              simp only at e1 e2
              subst e1
              rw [e3] at e2
              exact Prod.ext rfl (Option.some.inj e2).symm
            rw [this]; exact N₂ _ (.tail _ (hJm _ _ _ j))
        · exact N₂ p (.tail _ hp)
  · exact fun h' tk m' news' F' N' _ j => fin h' tk m' news' F' N' j
end
end Mine
namespace Mine
theorem tells_use0 {w : World} {f : Addr} {DP UN : Nat} {Pre : Heap → Prop} {news : Led} {args : List Value} {Post : Value → Led → Prop}
    {mean : ExcName → Option Value} {mg mb : Str → Option Value} {dp un : Nat} {gd : Option (List Code)} {cn : Str} {cs : Scope} {a : Addr} {ccd : Value} {cl : List (Str × Addr)} {outer : List Env} {A₀ : Around} {base h₀ : Heap} {L : Addr} {m : Str → Option Value} {s : Shared} {Q E : Value → Shared → Prop}
    (C : Tells w f DP UN Pre [] args Post) (hdp : dp ≤ DP) (hun : un ≤ UN) (B : Below A₀ base outer h₀) (F : Fr h₀ L s.heap m) (X : (hd.heap_39 w.params).In h₀) (N : News h₀ L s.heap news)
    (T : Top hd.view_39 LOO mean mg mb h₀) (hck : cs.kind = .function) (hpre : Pre h₀)
    (k : ∀ v h' tk' mods', Fr h₀ L h' m → News h₀ L h' (mods' ++ news) → (∀ p ∈ mods', ∀ r ∈ news, r.1 ≠ p.1) → Post v mods' → Q v { s with heap := h', toks := tk' }) :
    wpAny (model PySem.Challenge.rw_gr5003_01.row.prog w) (ktrTop dp un gd cn cs L a ccd cl outer) (call (.ref f) args) Q E s :=
  tells_use news C hdp hun B F X N T hck hpre (fun _ h => nomatch h) (fun _ h => h) (fun _ _ _ h => nomatch h) fun v h' tk' mods' F' N' hf hP => k v h' tk' mods' F' N' (fun p hp => (hf p hp).elim (fun ⟨_, h, _⟩ => nomatch h) id) hP
def deedObj (which kind size : Int) (b : List Nat) (t1 t2 t3 t4 : Tok) (n : Nat) : Obj := { cls := .type "tuple", data := .seq #[.int which t1, .int kind t2, .int size t3, .str (txt b) t4] n }
def DeedOf (o : Obj) : Prop := ∃ which kind size b t1 t2 t3 t4 n, o = deedObj which kind size b t1 t2 t3 t4 n ∧ 0 ≤ which ∧ which ≤ 1 ∧ 0 ≤ kind ∧ kind ≤ 4 ∧ 0 ≤ size ∧ size ≤ 5 ∧ b.length ≤ 3
def Tups (vs : List Value) (led : Led) : Prop := (∀ (i : Nat) (v : Value), vs[i]? = some v → ∃ q o, v = .ref q ∧ (q, o) ∈ led ∧ DeedOf o) ∧ ∀ p ∈ led, p.2.cls = .type "tuple"
theorem Tups.nil : Tups [] [] := ⟨fun _ _ h => by simp at h, fun _ h => nomatch h⟩
theorem Tups.snoc {vs : List Value} {led : Led} {q : Addr} {o : Obj} (T : Tups vs led) (h : DeedOf o) : Tups (vs ++ [.ref q]) ((q, o) :: led) := by
  refine ⟨fun i v hv => ?_, fun p hp => ?_⟩
  · by_cases hi : i < vs.length
    · rw [List.getElem?_append_left hi] at hv
      obtain ⟨q', o', e, hm, hd⟩ := T.1 i v hv
      exact ⟨q', o', e, .tail _ hm, hd⟩
    · rw [List.getElem?_append_right (by omega)] at hv
      have hi2 : i - vs.length = 0 := by
        by_cases h0 : i - vs.length = 0
        · exact h0
        · rw [List.getElem?_eq_none (by simp; omega)] at hv; cases hv
      rw [hi2] at hv
      simp at hv
      exact ⟨q, o, hv.symm, .head _, h⟩
  · rcases List.mem_cons.mp hp with rfl | hp
    · obtain ⟨_, _, _, _, _, _, _, _, _, rfl, _⟩ := h; rfl
    · exact T.2 p hp
theorem Tups.off {vs : List Value} {led : Led} (T : Tups vs led) {h₀ h : Heap} {L a : Addr} {o : Obj} {news : Led} (N : News h₀ L h news) (hs : ∀ p ∈ led, p ∈ news) (hm : (a, o) ∈ news) (ho : o.cls ≠ .type "tuple") : ∀ p ∈ led, p.1 ≠ a :=
  fun p hp => News.twoPlaces N (hs p hp) hm fun e => ho ((congrArg Obj.cls (show p.2 = o from e)).symm.trans (T.2 p hp))
theorem map_deeds {A B C : Str} {a b c a' b' c' : Option Value} {m₀ : Str → Option Value} : (fun y => if y = A then a else if y = B then b else if y = C then c else if y = A then a' else if y = B then b' else if y = C then c' else m₀ y) = (fun y => if y = A then a else if y = B then b else if y = C then c else m₀ y) := by
  funext y
  by_cases h1 : y = A
  · simp only [h1, if_true]
  · by_cases h2 : y = B
    · simp only [h1, h2, if_true, if_false]
    · by_cases h3 : y = C
      · simp only [h1, h2, h3, if_true, if_false]
      · simp only [h1, h2, h3, if_false]
end Mine
namespace Mine
section
variable {prog : Program} {w : World} {A : Around} {E : Value → Shared → Prop} {s : Shared} {h₀ : Heap} {L : Addr} {news : Led}
theorem backs_at {t1 t2 t3 t4 : Tok} {k : Int} (h0 : 0 ≤ k) (hk : k < 4) : ∃ (b : List Nat) (t : Tok), [Value.str (Str.ofString "") t1, .str (Str.ofString "q") t2, .str (Str.ofString "rs") t3, .str (Str.ofString "tuv") t4][k.toNat]? = some (.str (txt b) t) ∧ b.length ≤ 3 := by
  have h : k = 0 ∨ k = 1 ∨ k = 2 ∨ k = 3 := by omega
  rcases h with rfl | rfl | rfl | rfl
  · exact ⟨[], t1, by show some (Value.str (Str.ofString "") t1) = _; rw [empty_txt], by decide⟩
  · exact ⟨[113], t2, by rw [show Str.ofString "q" = txt [113] by decide +kernel]; rfl, by decide⟩
  · exact ⟨[114, 115], t3, by rw [show Str.ofString "rs" = txt [114, 115] by decide +kernel]; rfl, by decide⟩
  · exact ⟨[116, 117, 118], t4, by rw [show Str.ofString "tuv" = txt [116, 117, 118] by decide +kernel]; rfl, by decide⟩
theorem my_backs {value slice : Expr} {D : Addr} {n : Nat} {t1 t2 t3 t4 : Tok} {k : Int} {u : Tok} {Q : Value → Shared → Prop} (N : News h₀ L s.heap news) (hm : (D, listOf #[Value.str (Str.ofString "") t1, .str (Str.ofString "q") t2, .str (Str.ofString "rs") t3, .str (Str.ofString "tuv") t4] n) ∈ news)
    (h0 : 0 ≤ k) (hk : k < 4) (h : ∀ b t, List.length b ≤ 3 → Q (.str (txt b) t) s)
    (hs : subscripted slice false (.ref D) (.int k u) = operate [.ref D, .int k u] (getItem (.ref D) (.int k u)) := by with_unfolding_all rfl) :
    wpAny (model prog w) A (subscriptTail value slice (.ref D) (.int k u)) Q E s := by
  obtain ⟨b, t, e, hb⟩ := backs_at (t1 := t1) (t2 := t2) (t3 := t3) (t4 := t4) h0 hk
  exact my_item (vs := [Value.str (Str.ofString "") t1, .str (Str.ofString "q") t2, .str (Str.ofString "rs") t3, .str (Str.ofString "tuv") t4]) N hm h0 (by omega) e (h b t hb) hs
end
end Mine
namespace Mine
theorem deeds_turn {g h' : Heap} {L' I D T q : Addr} {oI o : Obj} {us : List Value} {n n' : Nat} {led : Led} {i : Nat} {M₀ : Str → Option Value} {s₁ : Shared} {Q : Flow → Shared → Prop} {tk' : Nat} {w k sz : Int} {b : List Nat} {t1 t2 t3 t4 : Tok} {A B C : Str} {a b1 c a' b' c' : Option Value}
    (F : Fr g L' h' (fun y => if y = A then a else if y = B then b1 else if y = C then c else if y = A then a' else if y = B then b' else if y = C then c' else if y = Str.ofString "deeds" then some (.ref D) else M₀ y))
    (N : News g L' h' ((T, deedObj w k sz b t1 t2 t3 t4 n') :: (q, o) :: (I, oI) :: (D, listOf (us.toArray.push (.ref T)) (n + 1)) :: led))
    (TP : Tups us led) (hlen : us.length = i) (hw : 0 ≤ w ∧ w < 2) (hk : 0 ≤ k ∧ k < 5) (hs : 0 ≤ sz ∧ sz ≤ 5) (hb : b.length ≤ 3) (hT : @LT.lt Nat _ I T) (hD : @Ne Nat D I) (hofl : ∀ p ∈ led, p.1 ≠ I) :
    TurnB g L' s₁ I oI (fun m₁ news₁ => ∃ (D : Addr) (us : List Value) (n : Nat) (led : Led) (os od ok : Option Value), m₁ = (fun y => if y = A then os else if y = B then od else if y = C then ok else if y = Str.ofString "deeds" then some (.ref D) else M₀ y) ∧
      news₁ = (D, listOf (List.toArray us) n) :: led ∧ Tups us led ∧ us.length = i + 1) Q .next { s₁ with heap := h', toks := tk' } := by
  refine turnB_next F N ((D, listOf (us.toArray.push (.ref T)) (n + 1)) :: (T, deedObj w k sz b t1 t2 t3 t4 n') :: led) ?_ ?_ ⟨D, us ++ [.ref T], n + 1, (T, deedObj w k sz b t1 t2 t3 t4 n') :: led, a, b1, c, map_deeds, by rw [List.push_toArray], Tups.snoc TP ⟨w, k, sz, b, t1, t2, t3, t4, n', rfl, hw.1, by omega, hk.1, by omega, hs.1, hs.2, hb⟩, by simp; omega⟩
  · intro p hp
    rcases List.mem_cons.mp hp with rfl | hp
    · exact .tail _ (.tail _ (.head _))
    · rcases List.mem_cons.mp hp with rfl | hp
      · exact .tail _ (.tail _ (.tail _ (.head _)))
      · rcases List.mem_cons.mp hp with rfl | hp
        · exact .head _
        · exact .tail _ (.tail _ (.tail _ (.tail _ hp)))
  · intro p hp
    rcases List.mem_cons.mp hp with rfl | hp
    · exact hD
    · rcases List.mem_cons.mp hp with rfl | hp
      · exact Nat.ne_of_gt hT
      · exact hofl p hp
end Mine
end

section
open PySem PySem.W PySem.Calls PyProof.Rows
set_option Elab.async false
set_option maxRecDepth 100000
set_option maxHeartbeats 4000000
namespace Mine

set_option rowWalk.seconds 0

local macro_rules | `(tactic| walk_at "m_go") => `(tactic| repeat' (
  (fail_if_success (with_reducible show PySem.wpAny _ _ (PySem.call (PySem.Value.ref _) _) _ _ _))
  (fail_if_success (with_reducible show PySem.wpAny _ _ (PySem.exec (PySem.Stmt.While _ _ _ _) _) _ _ _))
  (fail_if_success (with_reducible show Mine.EndB _ _ _ _ _ _))
  (first | (k_unfold; (try dsimp only)) | walk1 | (dsimp only; walk1) | fail "no step")))

local macro_rules | `(tactic| walk_at "truthy ref") => `(tactic| (k_here; (with_reducible show PySem.wpAny _ _ (PySem.truthy (PySem.Value.ref _)) _ _ _); k_dflt (refine' my_truthy ?N ?m ?z ?_; (case N => k_asm); (case m => k_mem); (case z => first | omega | (simp only [List.length_cons]; omega)); k_whole); (intro _); (try simp only [List.isEmpty_cons, List.isEmpty_nil, Bool.not_false, Bool.not_true])))
local macro_rules | `(tactic| walk_at "call builtin:list.pop") => `(tactic| (k_here; (with_reducible show PySem.wpAny _ _ (PySem.call (PySem.Value.builtin _) [PySem.Value.ref _, PySem.Value.int _ _]) _ _ _); k_dflt (refine' my_pop0 ?F ?N ?U ?z ?_; (case F => k_asm); (case N => k_asm); (case U => k_upd); (case z => omega)); kl_rest))
local macro_rules | `(tactic| walk_at "call builtin:len") => `(tactic| (k_here; (with_reducible show PySem.wpAny _ _ (PySem.call (PySem.Value.builtin "len") [PySem.Value.ref _]) _ _ _); k_dflt (refine' my_len ?N ?m ?z ?_; (case N => k_asm); (case m => k_mem); (case z => first | omega | (simp only [List.length_cons]; omega)); k_whole); (intro _ _)))

local macro_rules | `(tactic| walk_at "inplaceOp Add str str") => `(tactic| (k_here; (with_reducible show PySem.wpAny _ _ (PySem.inplaceOp PySem.Operator.Add (PySem.Value.str _ _) (PySem.Value.str _ _)) _ _ _); k_dflt (refine' my_iadd_txt ?z ?_; (case z => first | omega | (simp only [List.length_cons, List.length_append, List.length_take, List.length_drop, List.length_nil]; omega)); k_whole); (intro _ _)))
local macro_rules | `(tactic| walk_at "binaryOp Add str str") => `(tactic| (k_here; (with_reducible show PySem.wpAny _ _ (PySem.binaryOp PySem.Operator.Add (PySem.Value.str _ _) (PySem.Value.str _ _)) _ _ _); k_dflt (refine' my_add_txt ?z ?_; (case z => first | omega | (simp only [List.length_cons, List.length_append, List.length_take, List.length_drop, List.length_nil]; omega)); k_whole); (intro _ _)))
local macro_rules | `(tactic| walk_at "subscriptTail Attribute") => `(tactic| (k_here; (with_reducible show PySem.wpAny _ _ (subscriptTail _ _ (PySem.Value.ref _) (PySem.Value.int _ _)) _ _ _); k_dflt (refine' my_item ?N ?m ?a ?b ?c ?_; (case N => k_asm); (case m => k_mem); (case a => omega); (case b => omega); (case c => k_asm))))

local macro_rules | `(tactic| walk_at "call builtin:list.extend") => `(tactic| (k_here; (with_reducible show PySem.wpAny _ _ (PySem.call (PySem.Value.builtin _) [PySem.Value.ref _, PySem.Value.str _ _]) _ _ _); k_dflt (refine' my_extend ?hh ?F ?N ?m ?z ?_; (case hh => exact rfl); (case F => k_asm); (case N => k_asm); (case m => k_mem); (case z => omega)); (intro h' us n' tk F' hus hN); (have N' := hN _ (by k_upd)); clear hN; (try k_sweep)))

local macro_rules | `(tactic| walk_at "call builtin:list.extend") => `(tactic| (k_here; (with_reducible show PySem.wpAny _ _ (PySem.call (PySem.Value.builtin _) [PySem.Value.ref _, PySem.Value.ref _]) _ _ _); k_dflt (refine' my_extend_list ?F ?N ?m ?b ?z ?_; (case F => k_asm); (case N => k_asm); (case m => k_mem); (case b => k_mem); (case z => omega)); (intro h' n' F' hN); (have N' := hN _ (by k_upd)); clear hN; (try k_sweep)))
local macro_rules | `(tactic| walk_at "call type:list") => `(tactic| (k_here; (with_reducible show PySem.wpAny _ _ (PySem.call (PySem.Value.type _) [PySem.Value.str _ _]) _ _ _); k_dflt (refine' my_list_str ?hh ?F ?N ?z ?_; (case hh => exact rfl); (case F => k_asm); (case N => k_asm); (case z => omega)); (intro D h' us n' tk F' hus N' l1); (have hul := Chars.length hus); (try k_lt l1); (try k_sweep)))

local macro_rules | `(tactic| walk_at "subscriptTail Name Slice str ref") => `(tactic| (k_here; (with_reducible show PySem.wpAny _ _ (subscriptTail _ (PySem.Expr.Slice none (some _) none _) (PySem.Value.str (txt _) _) _) _ _ _); (with_reducible rename Fr _ _ _ _ => F'); (with_reducible rename News _ _ _ _ => N'); (refine my_slice_to (s := ⟨_, _, _, _, _⟩) F' N' (by omega) (by first | omega | (simp only [List.length_take, List.length_drop]; omega)) ?_); (intro _ _ _ _ _)))
local macro_rules | `(tactic| walk_at "subscriptTail Name Slice str ref") => `(tactic| (k_here; (with_reducible show PySem.wpAny _ _ (subscriptTail _ (PySem.Expr.Slice (some _) none none _) (PySem.Value.str (txt _) _) _) _ _ _); (with_reducible rename Fr _ _ _ _ => F'); (with_reducible rename News _ _ _ _ => N'); (refine my_slice_from (s := ⟨_, _, _, _, _⟩) F' N' (by omega) (by first | omega | (simp only [List.length_take, List.length_drop]; omega)) ?_); (intro _ _ _ _ _)))
local macro_rules | `(tactic| walk_at "call builtin:len") => `(tactic| (k_here; (with_reducible show PySem.wpAny _ _ (PySem.call (PySem.Value.builtin "len") [PySem.Value.str (txt _) _]) _ _ _); (refine my_len_txt (by first | omega | (simp only [List.length_take, List.length_drop]; omega)) ?_); (intro _ _)))

local macro_rules | `(tactic| walk_at "m_for") => `(tactic| repeat' (
  (fail_if_success (with_reducible show PySem.wpAny _ _ (PySem.call (PySem.Value.ref _) _) _ _ _))
  (fail_if_success (with_reducible show PySem.wpAny _ _ (PySem.exec (PySem.Stmt.While _ _ _ _) _) _ _ _))
  (fail_if_success (with_reducible show PySem.wpAny _ _ (PySem.exec (PySem.Stmt.For _ _ _ _ _) _) _ _ _))
  (fail_if_success (with_reducible show PySem.wpAny _ _ (PySem.pyIter _) _ _ _))
  (fail_if_success (with_reducible show Mine.EndB _ _ _ _ _ _))
  (fail_if_success (with_reducible show Mine.TurnB _ _ _ _ _ _ _ _ _))
  (first | (k_unfold; (try dsimp only)) | walk1 | (dsimp only; walk1) | fail "no step")))

local macro_rules | `(tactic| walk_at "eval Call") => `(tactic| ((with_reducible show PySem.wpAny _ _ (PySem.eval (PySem.Expr.Call (PySem.Expr.Name _ _) _ [] _) _) _ _ _); refine Call_ ?_))
local macro_rules | `(tactic| walk_at "eval Call Name") => `(tactic| ((with_reducible show PySem.wpAny _ _ (PySem.eval (PySem.Expr.Call (PySem.Expr.Name _ _) _ [] _) _) _ _ _); refine Call_ ?_))
local macro_rules | `(tactic| walk_at "call type:range") => `(tactic| (k_here; (with_reducible show PySem.wpAny _ _ (PySem.call _ [PySem.Value.int _ _]) _ _ _); (with_reducible rename Fr _ _ _ _ => F'); (with_reducible rename News _ _ _ _ => N'); (with_unfolding_all refine range1_rows F' N' ?_); intro h' tk t1' u1' v1' R' F' N' K'; (try k_sweep)))
local macro_rules | `(tactic| walk_at "subscriptTail") => `(tactic| (k_here; (with_reducible show PySem.wpAny _ _ (subscriptTail (PySem.Expr.Call _ _ _ _) _ (PySem.Value.ref _) (PySem.Value.int _ _)) _ _ _); k_dflt (refine' my_backs ?N ?m ?a ?b ?_; (case N => k_asm); (case m => k_mem); (case a => exact fmod_lo _ (by decide)); (case b => exact fmod_hi _ (by decide))); (intro bk tb hbk)))
local macro_rules | `(tactic| walk_at "subscriptTail Call") => `(tactic| (k_here; (with_reducible show PySem.wpAny _ _ (subscriptTail (PySem.Expr.Call _ _ _ _) _ (PySem.Value.ref _) (PySem.Value.int _ _)) _ _ _); k_dflt (refine' my_backs ?N ?m ?a ?b ?_; (case N => k_asm); (case m => k_mem); (case a => exact fmod_lo _ (by decide)); (case b => exact fmod_hi _ (by decide))); (intro bk tb hbk)))
local macro_rules | `(tactic| walk_at "subscriptTail Call BinOp") => `(tactic| (k_here; (with_reducible show PySem.wpAny _ _ (subscriptTail (PySem.Expr.Call _ _ _ _) _ (PySem.Value.ref _) (PySem.Value.int _ _)) _ _ _); k_dflt (refine' my_backs ?N ?m ?a ?b ?_; (case N => k_asm); (case m => k_mem); (case a => exact fmod_lo _ (by decide)); (case b => exact fmod_hi _ (by decide))); (intro bk tb hbk)))
local macro_rules | `(tactic| walk_at "subscriptTail Call BinOp ref int") => `(tactic| (k_here; (with_reducible show PySem.wpAny _ _ (subscriptTail (PySem.Expr.Call _ _ _ _) _ (PySem.Value.ref _) (PySem.Value.int _ _)) _ _ _); k_dflt (refine' my_backs ?N ?m ?a ?b ?_; (case N => k_asm); (case m => k_mem); (case a => exact fmod_lo _ (by decide)); (case b => exact fmod_hi _ (by decide))); (intro bk tb hbk)))
local macro_rules | `(tactic| k_all) => `(tactic| with_reducible assumption)

theorem tells_deeds (w : World) (l : Addr) (vs : List Value) (ns : List Int) (hi : IntsAre vs ns) (hn : ns.length ≤ 63) : Tells w 678 340 36 (fun h => h.IsList l vs.toArray) [] [.ref l]
   (fun v mods' => ∃ D us n led, v = .ref D ∧ mods' = (D, listOf (List.toArray us) n) :: led ∧ Tups us led ∧ us.length ≤ 24) := by
  have kf : (hd.heap_39 w.params).In = (hd.heap_39 w.params).In ∧ PySem.Challenge.rw_gr5003_01 = PySem.Challenge.rw_gr5003_01 := ⟨rfl, rfl⟩
  revert kf
  w_top off
  k_fill
  intro _
  refine' tells_of_body (binds := [(Str.ofString "script", .ref l)]) ?ho ?hcd (by decide) (fun _ _ k x => x.elim fun o hx => ⟨o, k _ _ hx.1, hx.2⟩) ?hb ?hl ?hc ?h1 ?h2 ?h3 ?body
  case ho => k_dflt k_is
  case hcd => k_dflt k_is
  case hb => intro s X; first | exact BindsTo.of_eq rfl | exact binds_K X rfl (by k_dflt k_is) rfl rfl rfl
  case hl => exact locs rfl
  case hc => decide
  case h1 => rfl
  case h2 => rfl
  case h3 => rfl
  intro mean mg mb outer base g L' s A₀ B F X N T PR LT
  try dsimp only
  k_fold
  have LT2 := allLt_of LT
  simp only [AllLt, and_true] at LT2

  walk_at "m_for"
  refine For_invV g (by rfl) (by rfl) ?_ (by intro _; rfl) (by passes_own)
  walk_at "m_for"
  refine tells_use0 (tells_num w l vs ns hi hn 0 _ (by decide) (by decide)) (by decide) (by decide) (by k_asm) (by k_asm) (by k_asm) (by k_asm) (by k_asm) rfl (by k_asm) ?_
  rintro v h1 tk1 mods1 F1 N1 Fre ⟨⟨z, tz, rfl⟩, rfl⟩
  simp only [List.nil_append] at N1
  walk_at "m_for"
  have hb0 := fmod_lo z (n := 21) (by decide)
  have hb1 := fmod_hi z (n := 21) (by decide)
  refine range_loop (n := (4 + z.fmod 21 - 0).toNat) rfl (by assumption) (by assumption) (by assumption) (small_one (by omega) (by omega) (by omega) (by omega)) (rangeSize_nat _ _)
    (fun i m₁ news₁ => ∃ (D : Addr) (us : List Value) (n : Nat) (led : Led) (os od ok : Option Value), m₁ = (fun y => if y = Str.ofString "size" then os else if y = Str.ofString "drawn" then od else if y = Str.ofString "k" then ok else if y = Str.ofString "deeds" then some (.ref D) else List.lookup y [(Str.ofString "script", Value.ref l)].reverse) ∧ news₁ = (D, listOf (List.toArray us) n) :: led ∧ Tups us led ∧ us.length = i) ⟨_, [], 0, [], none, none, none, ?_, rfl, .nil, rfl⟩ ?_ ?_
  · funext y
    by_cases h1 : y = Str.ofString "size"
    · subst h1; rfl
    · by_cases h2 : y = Str.ofString "drawn"
      · subst h2; rfl
      · by_cases h3 : y = Str.ofString "k"
        · subst h3; rfl
        · simp only [h1, h2, h3, if_false]
  · intro i t m₁ news₁ h₁ tk₁ I oI hlt ⟨D, us, n, led, os, od, ok, e1, e2, TP, hlen⟩ off F₁ N₁
    subst e1
    subst e2
    have hled : ∀ p ∈ led, p.1 ≠ D := TP.off N₁ (fun p hp => .tail _ (.tail _ hp)) (.tail _ (.head _)) (show Value.type "list" ≠ Value.type "tuple" from fun h => absurd (Value.type.inj h) (by decide))
    have hDI : @Ne Nat D I := off _ (.head _)
    have hofl : ∀ p ∈ led, p.1 ≠ I := fun p hp => off p (.tail _ hp)
    show wpAny _ _ _ _ _ _
    k_fold
    walk_at "m_for"
    refine tells_use0 (tells_num w l vs ns hi hn (3 + (i : Int)) _ (by omega) (by omega)) (by decide) (by decide) (by k_asm) (by k_asm) (by k_asm) (by k_asm) (by k_asm) rfl (by k_asm) ?_
    rintro v h2 tk2 mods2 F2 N2 Fre2 ⟨⟨z2, tz2, rfl⟩, rfl⟩
    simp only [List.nil_append] at N2
    walk_at "m_for"
    all_goals refine tells_use0 (tells_backs w) (by decide) (by decide) (by k_asm) (by k_asm) (by k_asm) (by k_asm) (by k_asm) rfl True.intro ?_
    all_goals rintro v h3 tk3 mods3 F3 N3 Fre3 ⟨q, t1, t2, t3, t4, nb, rfl, rfl⟩
    all_goals simp only [List.cons_append, List.nil_append] at N3
    all_goals have hqI : @Ne Nat I q := Fre3 _ (.head _) _ (.head _)
    all_goals have hqD : @Ne Nat D q := Fre3 _ (.head _) _ (.tail _ (.head _))
    all_goals walk_at "m_for"
    all_goals rename @_root_.LT.lt _ _ _ _ ∧ _ ∧ _ ∧ _ => hlts
    all_goals k_unfold
    all_goals exact deeds_turn (by assumption) (by assumption) TP hlen ⟨fmod_lo _ (by decide), fmod_hi _ (by decide)⟩ ⟨fmod_lo _ (by decide), fmod_hi _ (by decide)⟩ (by first | decide | exact ⟨by have := fmod_lo (((z2 + ((i : Int)).fdiv 3).fdiv 10).fmod 30) (n := 5) (by decide); omega, by have := fmod_hi (((z2 + ((i : Int)).fdiv 3).fdiv 10).fmod 30) (n := 5) (by decide); omega⟩) (by assumption) hlts.2.1 hDI hofl
  · intro h' tk m' news' F' N' ⟨D, us, n, led, os, od, ok, e1, e2, TP, hlen⟩
    subst e1
    subst e2
    show wpAny _ _ _ _ _ _
    walk_at "m_for"
    exact endB_of (by assumption) N' ⟨D, us, n, led, rfl, rfl, TP, by omega⟩
end Mine
end

section
open PySem PySem.W PySem.Calls PyProof.Rows
set_option Elab.async false
set_option maxRecDepth 100000
set_option maxHeartbeats 4000000
namespace Mine
def LexS (x : Addr) (R : List Nat) (h : Nat) (e : Bool) (Λ : Led) : Prop :=
  ∃ (dx qa fx fd sm : Addr) (y1 y2 y3 y4 y5 y6 x1 x2 x3 : Int) (j1 j2 j3 j4 j5 j6 k1 k2 k3 k4 k5 k6 : Tok) (nq : Nat) (vs : List Value) (C : List Nat) (Bf : Str) (p : Int), @Ne Nat x dx ∧ @Ne Nat x qa ∧ @Ne Nat x fx ∧ @Ne Nat x fd ∧ @Ne Nat dx qa ∧ @Ne Nat dx fx ∧ @Ne Nat dx fd ∧ @Ne Nat qa fx ∧ @Ne Nat qa fd ∧ @Ne Nat fx fd  ∧ Chars vs C ∧ C.length = h ∧ 0 ≤ p ∧ (Bf.length : Int) ≤ 1000 ∧ C ++ Bf.cps.toList.drop p.toNat = R ∧ Λ = [(x, instObj 648 dx), (dx, dictOf [⟨y1, .str (Str.ofString "f") j1, .ref fx⟩, ⟨y2, .str (Str.ofString "debug") j2, .bool false⟩, ⟨y3, .str (Str.ofString "q") j3, .ref qa⟩, ⟨y4, .str (Str.ofString "state") j4, .ref sm⟩, ⟨y5, .str (Str.ofString "escaped") j5, .bool false⟩, ⟨y6, .str (Str.ofString "eof") j6, .bool e⟩] 6), (qa, listOf (List.toArray vs) nq), (fx, instObj 569 fd), (fd, dictOf [⟨x1, .str (Str.ofString "_StringIO__newline") k1, .str (Str.ofString "\n") k2⟩, ⟨x2, .str (Str.ofString "_StringIO__buf") k3, .str Bf k4⟩, ⟨x3, .str (Str.ofString "_StringIO__pos") k5, .int p k6⟩] 3)]

theorem LexS.nodup {x : Addr} {R : List Nat} {h : Nat} {e : Bool} {Λ : Led} (H : LexS x R h e Λ) : (Λ.map (·.1)).Nodup := by
  obtain ⟨dx, qa, fx, fd, sm, y1, y2, y3, y4, y5, y6, x1, x2, x3, j1, j2, j3, j4, j5, j6, k1, k2, k3, k4, k5, k6, nq, vs, C, Bf, p, h_x_dx, h_x_qa, h_x_fx, h_x_fd, h_dx_qa, h_dx_fx, h_dx_fd, h_qa_fx, h_qa_fd, h_fx_fd, hC, hCl, hp, hB, hR, rfl⟩ := H
  simp only [List.map_cons, List.map_nil, List.nodup_cons, List.mem_cons, List.not_mem_nil, or_false, not_or, List.nodup_nil, and_true, not_false_eq_true]
  exact ⟨⟨h_x_dx, h_x_qa, h_x_fx, h_x_fd⟩, ⟨h_dx_qa, h_dx_fx, h_dx_fd⟩, ⟨h_qa_fx, h_qa_fd⟩, h_fx_fd⟩
theorem Tells.post {w : World} {f : Addr} {DP UN : Nat} {Pre : Heap → Prop} {mods : Led} {args : List Value} {P P' : Value → Led → Prop} (t : Tells w f DP UN Pre mods args P) (h : ∀ v m, P v m → P' v m) : Tells w f DP UN Pre mods args P' :=
  fun mean mg mb dp un gd cn cs a ccd cl outer A₀ base h₀ L m s Q E a1 a2 a3 a4 a5 a6 a7 a8 a9 k => t mean mg mb dp un gd cn cs a ccd cl outer A₀ base h₀ L m s Q E a1 a2 a3 a4 a5 a6 a7 a8 a9 fun v h' tk' mods' b1 b2 b3 b4 b5 => k v h' tk' mods' b1 b2 b3 b4 (h _ _ b5)
theorem tells_deedS (w : World) {x : Addr} {R : List Nat} {h : Nat} {e : Bool} {Λ : Led} (H : LexS x R h e Λ) (hRl : R.length ≤ 1000) (tk ts tb : Tok) (b : List Nat) (hb : b.length ≤ 1000) (kind size : Int) (hk0 : 0 ≤ kind) (hk4 : kind ≤ 4) (hs0 : 0 ≤ size) (hs5 : size ≤ 1000) :
    Tells w 692 320 30 (fun _ => True) Λ [.ref x, .int kind tk, .int size ts, .str (txt b) tb] (fun v Λ' => VIs v (dueV kind size R) ∧ LexS x (dueR kind size b R) (dueH kind size b R h) (dueE kind size R h e) Λ') := by
  obtain ⟨dx, qa, fx, fd, sm, y1, y2, y3, y4, y5, y6, x1, x2, x3, j1, j2, j3, j4, j5, j6, k1, k2, k3, k4, k5, k6, nq, vs, C, Bf, p, h_x_dx, h_x_qa, h_x_fx, h_x_fd, h_dx_qa, h_dx_fx, h_dx_fd, h_qa_fx, h_qa_fd, h_fx_fd, hC, hCl, hp, hB, hR, rfl⟩ := H
  have hl : C.length ≤ 1000 := by rw [← hR] at hRl; simp at hRl; omega
  refine (tells_deed w x dx qa fx fd sm h_x_dx h_x_qa h_x_fx h_x_fd h_dx_qa h_dx_fx h_dx_fd h_qa_fx h_qa_fd h_fx_fd y1 y2 y3 y4 y5 y6 x1 x2 x3 j1 j2 j3 j4 j5 j6 k1 k2 k3 k4 k5 k6 tk ts tb nq e vs C hC hl Bf p hp hB b hb kind size hk0 hk4 hs0 hs5).post ?_
  rintro v m ⟨qa', vs', C', nq', p', k6', e', hv, hC', hp', hcr, hcl, he, d1, d2, d3, d4, rfl⟩
  subst hR hCl he
  exact ⟨hv, dx, qa', fx, fd, sm, y1, y2, y3, y4, y5, y6, x1, x2, x3, j1, j2, j3, j4, j5, j6, k1, k2, k3, k4, k5, k6', nq', vs', C', Bf, p', h_x_dx, d1, h_x_fx, h_x_fd, d2, h_dx_fx, h_dx_fd, d3, d4, h_fx_fd, hC', hcl, hp', hB, hcr, rfl⟩
def RdPost (n : Int) (x : Addr) (R : List Nat) (h : Nat) (e : Bool) (v : Value) (Λ' : Led) : Prop :=
  (∃ t, v = .str (txt (R.take n.toNat)) t) ∧ LexS x (R.drop n.toNat) (h - n.toNat) (e || (R.take n.toNat).isEmpty) Λ'
theorem tells_readS (w : World) {x : Addr} {R : List Nat} {h : Nat} {e : Bool} {Λ : Led} (H : LexS x R h e Λ) (hRl : R.length ≤ 1000) (t : Tok) (n : Int) (hn : 0 ≤ n) (hn2 : n ≤ 1000) (args : List Value) (hargs : args = [.ref x, .int n t] ∨ (args = [.ref x] ∧ n = 1 ∧ t = 909)) :
    Tells w 616 340 40 (fun _ => True) Λ args (RdPost n x R h e) := by
  obtain ⟨dx, qa, fx, fd, sm, y1, y2, y3, y4, y5, y6, x1, x2, x3, j1, j2, j3, j4, j5, j6, k1, k2, k3, k4, k5, k6, nq, vs, C, Bf, p, h_x_dx, h_x_qa, h_x_fx, h_x_fd, h_dx_qa, h_dx_fx, h_dx_fd, h_qa_fx, h_qa_fd, h_fx_fd, hC, hCl, hp, hB, hR, rfl⟩ := H
  have hl : C.length ≤ 1000 := by rw [← hR] at hRl; simp at hRl; omega
  refine (tells_lread w x dx qa fx fd sm h_x_dx h_x_qa h_x_fx h_x_fd h_dx_qa h_dx_fx h_dx_fd h_qa_fx h_qa_fd h_fx_fd y1 y2 y3 y4 y5 y6 x1 x2 x3 j1 j2 j3 j4 j5 j6 k1 k2 k3 k4 k5 k6 t nq e vs C hC hl Bf p hp hB n hn hn2 args hargs).post ?_
  rintro v m ⟨t', p', k6', vs', nq', C', e', rfl, hpp, hC', hCe, hdr, he, rfl⟩
  subst hR hCl he
  obtain ⟨r1, r2⟩ := deed_read C (Bf.cps.toList.drop p.toNat) n.toNat
  exact ⟨⟨_, rfl⟩, dx, qa, fx, fd, sm, y1, y2, y3, y4, y5, y6, x1, x2, x3, j1, j2, j3, j4, j5, j6, k1, k2, k3, k4, k5, k6', nq', vs', C', Bf, p', h_x_dx, h_x_qa, h_x_fx, h_x_fd, h_dx_qa, h_dx_fx, h_dx_fd, h_qa_fx, h_qa_fd, h_fx_fd, hC', by rw [hCe]; exact r2, by omega, hB, by rw [hCe, hdr]; exact r1, rfl⟩
theorem tells_peekS (w : World) {x : Addr} {R : List Nat} {h : Nat} {e : Bool} {Λ : Led} (H : LexS x R h e Λ) (hRl : R.length ≤ 1000) (t : Tok) (n : Int) (hn : 0 ≤ n) (hn2 : n ≤ 1000) (args : List Value) (hargs : args = [.ref x, .int n t] ∨ (args = [.ref x] ∧ n = 1 ∧ t = 919)) :
    Tells w 624 340 40 (fun _ => True) Λ args (fun v _ => ∃ t, v = .str (txt (R.take n.toNat)) t) := by
  obtain ⟨dx, qa, fx, fd, sm, y1, y2, y3, y4, y5, y6, x1, x2, x3, j1, j2, j3, j4, j5, j6, k1, k2, k3, k4, k5, k6, nq, vs, C, Bf, p, h_x_dx, h_x_qa, h_x_fx, h_x_fd, h_dx_qa, h_dx_fx, h_dx_fd, h_qa_fx, h_qa_fd, h_fx_fd, hC, hCl, hp, hB, hR, rfl⟩ := H
  have hl : C.length ≤ 1000 := by rw [← hR] at hRl; simp at hRl; omega
  refine (tells_lpeek w x dx qa fx fd sm h_x_dx h_x_qa h_x_fx h_x_fd h_dx_qa h_dx_fx h_dx_fd h_qa_fx h_qa_fd h_fx_fd y1 y2 y3 y4 y5 y6 x1 x2 x3 j1 j2 j3 j4 j5 j6 k1 k2 k3 k4 k5 k6 t nq e vs C hC hl Bf p hp hB n hn hn2 args hargs).post ?_
  rintro v m ⟨t', p', k6', vs', nq', C', e', rfl, hpp, hC', hCe, hdr, he, rfl⟩
  subst hR
  exact ⟨_, rfl⟩
theorem txt_cps (l : List Nat) : (txt l).cps.toList.drop (0 : Int).toNat = l := by simp
theorem tells_newLS (w : World) (l : List Nat) (t : Tok) (hl : l.length ≤ 1000) : Tells w 648 340 35 (fun _ => True) [] [.str (txt l) t] (fun v Λ => ∃ x Λ', v = .ref x ∧ LexS x l 0 false Λ' ∧ ∃ sm, Λ = (sm, methodObj (.ref 645) (.ref x)) :: Λ') := by
  refine (tells_newL w l t).post ?_
  rintro v m ⟨x, dx, qa, fx, fd, sm, y1, y2, y3, y4, y5, y6, x1, x2, x3, j1, j2, j3, j4, j5, j6, k1, k2, k3, k4, k5, k6, rfl, h_x_dx, h_x_qa, h_x_fx, h_x_fd, h_dx_qa, h_dx_fx, h_dx_fd, h_qa_fx, h_qa_fd, h_fx_fd, rfl⟩
  exact ⟨x, _, rfl, ⟨dx, qa, fx, fd, sm, y1, y2, y3, y4, y5, y6, x1, x2, x3, j1, j2, j3, j4, j5, j6, k1, k2, k3, k4, k5, k6, 0, [], [], txt l, 0, h_x_dx, h_x_qa, h_x_fx, h_x_fd, h_dx_qa, h_dx_fx, h_dx_fd, h_qa_fx, h_qa_fd, h_fx_fd, .nil, rfl, by decide, by rw [txt_len]; omega, txt_cps l, rfl⟩, sm, rfl⟩
theorem tells_newLSb (w : World) (c : Nat) (l : List Nat) (ha : Ascii (c :: l)) (t : Tok) (hl : (c :: l).length ≤ 1000) : Tells w 648 340 35 (fun _ => True) [] [.bytes (octs (c :: l)) t] (fun v Λ => ∃ x Λ', v = .ref x ∧ LexS x (c :: l) 0 false Λ' ∧ ∃ sm, Λ = (sm, methodObj (.ref 645) (.ref x)) :: Λ') := by
  refine (tells_newLb w c l ha hl t).post ?_
  rintro v m ⟨x, dx, qa, fx, fd, sm, y1, y2, y3, y4, y5, y6, x1, x2, x3, j1, j2, j3, j4, j5, j6, k1, k2, k3, k4, k5, k6, rfl, h_x_dx, h_x_qa, h_x_fx, h_x_fd, h_dx_qa, h_dx_fx, h_dx_fd, h_qa_fx, h_qa_fd, h_fx_fd, rfl⟩
  exact ⟨x, _, rfl, ⟨dx, qa, fx, fd, sm, y1, y2, y3, y4, y5, y6, x1, x2, x3, j1, j2, j3, j4, j5, j6, k1, k2, k3, k4, k5, k6, 0, [], [], txt (c :: l), 0, h_x_dx, h_x_qa, h_x_fx, h_x_fd, h_dx_qa, h_dx_fx, h_dx_fd, h_qa_fx, h_qa_fd, h_fx_fd, .nil, rfl, by decide, by rw [txt_len]; omega, txt_cps _, rfl⟩, sm, rfl⟩
def Disj (A B : Led) : Prop := ∀ p ∈ A, ∀ q ∈ B, q.1 ≠ p.1
abbrev Nod (A : Led) : Prop := (A.map (·.1)).Nodup
theorem nod_app {A B : Led} : Nod (A ++ B) ↔ Nod A ∧ Nod B ∧ Disj A B := by
  unfold Nod Disj
  rw [List.map_append, List.nodup_append]
  constructor
  · rintro ⟨a, b, c⟩
    exact ⟨a, b, fun p hp q hq e => c _ (List.mem_map_of_mem hp) _ (List.mem_map_of_mem hq) e.symm⟩
  · rintro ⟨a, b, c⟩
    refine ⟨a, b, fun x hx y hy e => ?_⟩
    obtain ⟨p, hp, rfl⟩ := List.mem_map.mp hx
    obtain ⟨q, hq, rfl⟩ := List.mem_map.mp hy
    exact c p hp q hq e.symm
theorem tells_useN {w : World} {f : Addr} {DP UN : Nat} {Pre : Heap → Prop} {mods : Led} {args : List Value} {Post : Value → Led → Prop}
    {mean : ExcName → Option Value} {mg mb : Str → Option Value} {dp un : Nat} {gd : Option (List Code)} {cn : Str} {cs : Scope} {a : Addr} {ccd : Value} {cl : List (Str × Addr)} {outer : List Env} {A₀ : Around} {base h₀ : Heap} {L : Addr} {m : Str → Option Value} {s : Shared} {Q E : Value → Shared → Prop}
    (rest : Led) (C : Tells w f DP UN Pre mods args Post) (hdp : dp ≤ DP) (hun : un ≤ UN) (B : Below A₀ base outer h₀) (F : Fr h₀ L s.heap m) (X : (hd.heap_39 w.params).In h₀) (N : News h₀ L s.heap (mods ++ rest)) (nd : Nod (mods ++ rest))
    (T : Top hd.view_39 LOO mean mg mb h₀) (hck : cs.kind = .function) (hpre : Pre h₀)
    (k : ∀ v h' tk' mods', Fr h₀ L h' m → News h₀ L h' (mods' ++ rest) → Disj mods' rest → Post v mods' → Q v { s with heap := h', toks := tk' }) :
    wpAny (model PySem.Challenge.rw_gr5003_01.row.prog w) (ktrTop dp un gd cn cs L a ccd cl outer) (call (.ref f) args) Q E s := by
  obtain ⟨_, _, d⟩ := nod_app.mp nd
  refine tells_use rest C hdp hun B F X N T hck hpre (fun p hp => List.mem_append_left _ hp) (fun p hp => List.mem_append_right _ hp) (fun p hp q hq e => d q hq p hp e.symm) fun v h' tk' mods' F' N' hf hP => k v h' tk' mods' F' N' (fun p hp r hr => ?_) hP
  rcases hf p hp with ⟨q, hq, e⟩ | h
  · rw [← e]; exact d q hq r hr
  · exact h r (List.mem_append_right _ hr)
end Mine
end

section
open PySem PySem.W PySem.Calls PyProof.Rows
set_option Elab.async false
set_option maxRecDepth 100000
set_option maxHeartbeats 4000000
namespace Mine
section
variable {prog : Program} {w : World} {A : Around} {E : Value → Shared → Prop} {s : Shared}
theorem my_add_y {l : List Nat} {t u : Tok} {Q : Value → Shared → Prop} (hl : l.length ≤ 1000) (h : ∀ t' k, Q (.str (txt (121 :: l)) t') { s with toks := k }) :
    wpAny (model prog w) A (binaryOp .Add (.str (Str.ofString "y") t) (.str (txt l) u)) Q E s := by
  have hy : Str.ofString "y" = txt [121] := by decide +kernel
  rw [hy]
  refine my_add_txt (by simp; omega) fun t' k => ?_
  exact h t' k
end
def EndL (g : Heap) (L : Addr) (s : Shared) (f : Flow) (s' : Shared) : Prop := f = .ret (.bool true) ∧ ∃ h' tk' gs m', s' = { s with heap := h', toks := tk', gens := gs } ∧ Fr g L h' m' ∧ AllBare gs
end Mine
namespace Mine
theorem LexS.le {x : Addr} {R : List Nat} {h : Nat} {e : Bool} {Λ : Led} (H : LexS x R h e Λ) : h ≤ R.length := by
  obtain ⟨dx, qa, fx, fd, sm, y1, y2, y3, y4, y5, y6, x1, x2, x3, j1, j2, j3, j4, j5, j6, k1, k2, k3, k4, k5, k6, nq, vs, C, Bf, p, _, _, _, _, _, _, _, _, _, _, hC, hCl, hp, hB, hR, rfl⟩ := H
  rw [← hR, ← hCl]; simp
theorem tells_useD {w : World} {f : Addr} {DP UN : Nat} {Pre : Heap → Prop} {mods news : Led} {args : List Value} {Post : Value → Led → Prop}
    {mean : ExcName → Option Value} {mg mb : Str → Option Value} {dp un : Nat} {gd : Option (List Code)} {cn : Str} {cs : Scope} {a : Addr} {ccd : Value} {cl : List (Str × Addr)} {outer : List Env} {A₀ : Around} {base h₀ : Heap} {L : Addr} {m : Str → Option Value} {s : Shared} {Q E : Value → Shared → Prop}
    (rest : Led) (C : Tells w f DP UN Pre mods args Post) (hdp : dp ≤ DP) (hun : un ≤ UN) (B : Below A₀ base outer h₀) (F : Fr h₀ L s.heap m) (X : (hd.heap_39 w.params).In h₀) (N : News h₀ L s.heap news)
    (T : Top hd.view_39 LOO mean mg mb h₀) (hck : cs.kind = .function) (hpre : Pre h₀) (hm : ∀ p ∈ mods, p ∈ news) (hr : ∀ p ∈ rest, p ∈ news) (d : Disj mods rest)
    (k : ∀ v h' tk' mods', Fr h₀ L h' m → News h₀ L h' (mods' ++ rest) → Disj mods' rest → Post v mods' → Q v { s with heap := h', toks := tk' }) :
    wpAny (model PySem.Challenge.rw_gr5003_01.row.prog w) (ktrTop dp un gd cn cs L a ccd cl outer) (call (.ref f) args) Q E s := by
  refine tells_use rest C hdp hun B F X N T hck hpre hm hr (fun p hp q hq e => d q hq p hp e.symm) fun v h' tk' mods' F' N' hf hP => k v h' tk' mods' F' N' (fun p hp r hr' => ?_) hP
  rcases hf p hp with ⟨q, hq, e⟩ | h
  · rw [← e]; exact d q hq r hr'
  · exact h r (hr r hr')
theorem disj_app {A B C : Led} : Disj A (B ++ C) ↔ Disj A B ∧ Disj A C := by
  constructor
  · exact fun h => ⟨fun p hp q hq => h p hp q (List.mem_append_left _ hq), fun p hp q hq => h p hp q (List.mem_append_right _ hq)⟩
  · rintro ⟨h, k⟩ p hp q hq
    rcases List.mem_append.mp hq with hq | hq
    · exact h p hp q hq
    · exact k p hp q hq
theorem disj_cons {A C : Led} {z : Addr × Obj} : Disj A (z :: C) ↔ Disj A [z] ∧ Disj A C := disj_app (B := [z])
theorem Disj.symm {A B : Led} (h : Disj A B) : Disj B A := fun p hp q hq e => h q hq p hp e.symm
theorem disj_one {a : Addr} {o : Obj} {B : Led} : Disj B [(a, o)] ↔ ∀ p ∈ B, p.1 ≠ a :=
  ⟨fun h p hp e => h p hp _ (.head _) e.symm, fun h p hp q hq e => by rw [List.mem_singleton.mp hq] at e; exact h p hp e.symm⟩
/-- four moving parts and what stays -/
structure Five (K : Led) (a b : Addr) (A B : Led) : Prop where
  ka : ∀ p ∈ K, p.1 ≠ a
  kb : ∀ p ∈ K, p.1 ≠ b
  ab : @Ne Nat a b
  kA : Disj A K
  kB : Disj B K
  aA : ∀ p ∈ A, p.1 ≠ a
  aB : ∀ p ∈ B, p.1 ≠ a
  bA : ∀ p ∈ A, p.1 ≠ b
  bB : ∀ p ∈ B, p.1 ≠ b
  AB : Disj A B
theorem Five.swap {K : Led} {a b : Addr} {A B : Led} (h : Five K a b A B) : Five K b a B A := ⟨h.kb, h.ka, h.ab.symm, h.kB, h.kA, h.bB, h.bA, h.aB, h.aA, h.AB.symm⟩
theorem my_ne {prog : Program} {w : World} {A : Around} {E : Value → Shared → Prop} {s : Shared} {v u : Value} {o : Option (List Nat)} {Q : Value → Shared → Prop} (hv : VIs v o) (hu : VIs u o) (h : Q (.bool false) s) :
    wpAny (model prog w) A (compareOp .NotEq v u) Q E s := by
  cases o with
  | none =>
    cases hv; cases hu
    exact EqNone.ne_none_none h
  | some l =>
    obtain ⟨t, rfl⟩ := hv
    obtain ⟨t', rfl⟩ := hu
    exact P.ne_str (by rw [bne_self_eq_false]; exact h)
theorem map_law {a0 a1 a2 a3 a4 a5 a6 b0 b1 b2 b3 b4 b5 b6 : Option Value} {m₀ : Str → Option Value} : (fun y => if y = Str.ofString "due" then a0 else if y = Str.ofString "model" then a1 else if y = Str.ofString "lexer" then a2 else if y = Str.ofString "back" then a3 else if y = Str.ofString "size" then a4 else if y = Str.ofString "kind" then a5 else if y = Str.ofString "which" then a6 else if y = Str.ofString "due" then b0 else if y = Str.ofString "model" then b1 else if y = Str.ofString "lexer" then b2 else if y = Str.ofString "back" then b3 else if y = Str.ofString "size" then b4 else if y = Str.ofString "kind" then b5 else if y = Str.ofString "which" then b6 else m₀ y) = (fun y => if y = Str.ofString "due" then a0 else if y = Str.ofString "model" then a1 else if y = Str.ofString "lexer" then a2 else if y = Str.ofString "back" then a3 else if y = Str.ofString "size" then a4 else if y = Str.ofString "kind" then a5 else if y = Str.ofString "which" then a6 else m₀ y) := by
  funext y
  by_cases h0 : y = Str.ofString "due"
  · simp only [h0, if_true, if_false]
  ·
    by_cases h1 : y = Str.ofString "model"
    · simp only [h0, h1, if_true, if_false]
    ·
      by_cases h2 : y = Str.ofString "lexer"
      · simp only [h0, h1, h2, if_true, if_false]
      ·
        by_cases h3 : y = Str.ofString "back"
        · simp only [h0, h1, h2, h3, if_true, if_false]
        ·
          by_cases h4 : y = Str.ofString "size"
          · simp only [h0, h1, h2, h3, h4, if_true, if_false]
          ·
            by_cases h5 : y = Str.ofString "kind"
            · simp only [h0, h1, h2, h3, h4, h5, if_true, if_false]
            ·
              by_cases h6 : y = Str.ofString "which"
              · simp only [h0, h1, h2, h3, h4, h5, h6, if_true, if_false]
              ·
                simp only [h0, h1, h2, h3, h4, h5, h6, if_false]
end Mine
end

section
open PySem PySem.W PySem.Calls PyProof.Rows
set_option Elab.async false
set_option maxRecDepth 100000
set_option maxHeartbeats 4000000
namespace Mine
theorem allLt_all {d : Addr} : ∀ {l : Led}, AllLt d l → ∀ p ∈ l, p.1 < d
  | [], _, _, h => nomatch h
  | _ :: _, x, p, h => by
    rcases List.mem_cons.mp h with rfl | h
    · exact x.1
    · exact allLt_all x.2 p h
theorem five_init {Dl Lx Mo M1 M2 sm1 sm2 : Addr} {oD oX oO o1 o2 os1 os2 : Obj} {led A B : Led}
    (fD : ∀ p ∈ (Dl, oD) :: led, ∀ r ∈ (Lx, oX) :: (sm2, os2) :: (B ++ (sm1, os1) :: (A ++ [(Mo, oO), (M2, o2), (M1, o1)])), r.1 ≠ p.1)
    (lX : ∀ p ∈ (sm2, os2) :: (B ++ (sm1, os1) :: (A ++ [(Mo, oO), (M2, o2), (M1, o1)])), p.1 < Lx)
    (f2 : ∀ p ∈ (sm2, os2) :: B, ∀ r ∈ (sm1, os1) :: (A ++ [(Mo, oO), (M2, o2), (M1, o1)]), r.1 ≠ p.1)
    (f1 : ∀ p ∈ (sm1, os1) :: A, ∀ r ∈ [(Mo, oO), (M2, o2), (M1, o1)], r.1 ≠ p.1)
    (l12 : @_root_.LT.lt Nat _ M1 M2) (lO : @_root_.LT.lt Nat _ M2 Mo ∧ @_root_.LT.lt Nat _ M1 Mo) : Five ((Dl, oD) :: (Mo, oO) :: (Lx, oX) :: led) M1 M2 A B := by
  have f1' : ∀ p ∈ A, p.1 ≠ Mo ∧ p.1 ≠ M2 ∧ p.1 ≠ M1 := fun p hp => ⟨fun e => f1 p (.tail _ hp) _ (.head _) e.symm, fun e => f1 p (.tail _ hp) _ (.tail _ (.head _)) e.symm, fun e => f1 p (.tail _ hp) _ (.tail _ (.tail _ (.head _))) e.symm⟩
  have i1 : ∀ r, r ∈ [(Mo, oO), (M2, o2), (M1, o1)] → r ∈ (sm1, os1) :: (A ++ [(Mo, oO), (M2, o2), (M1, o1)]) := fun r h => .tail _ (List.mem_append_right _ h)
  have iA : ∀ r, r ∈ A → r ∈ (sm1, os1) :: (A ++ [(Mo, oO), (M2, o2), (M1, o1)]) := fun r h => .tail _ (List.mem_append_left _ h)
  have i2 : ∀ r, r ∈ (sm1, os1) :: (A ++ [(Mo, oO), (M2, o2), (M1, o1)]) → r ∈ (sm2, os2) :: (B ++ (sm1, os1) :: (A ++ [(Mo, oO), (M2, o2), (M1, o1)])) := fun r h => .tail _ (List.mem_append_right _ h)
  have iB : ∀ r, r ∈ B → r ∈ (sm2, os2) :: (B ++ (sm1, os1) :: (A ++ [(Mo, oO), (M2, o2), (M1, o1)])) := fun r h => .tail _ (List.mem_append_left _ h)
  have hO : (Mo, oO) ∈ [(Mo, oO), (M2, o2), (M1, o1)] := .head _
  have h2 : (M2, o2) ∈ [(Mo, oO), (M2, o2), (M1, o1)] := .tail _ (.head _)
  have h1 : (M1, o1) ∈ [(Mo, oO), (M2, o2), (M1, o1)] := .tail _ (.tail _ (.head _))
  have key : ∀ a o, (a, o) ∈ [(Mo, oO), (M2, o2), (M1, o1)] → @Ne Nat a Mo → ∀ p ∈ (Dl, oD) :: (Mo, oO) :: (Lx, oX) :: led, p.1 ≠ a := by
    intro a o ha hne p hp e
    rcases List.mem_cons.mp hp with rfl | hp
    · exact fD _ (.head _) _ (.tail _ (i2 _ (i1 _ ha))) e.symm
    · rcases List.mem_cons.mp hp with rfl | hp
      · exact hne e.symm
      · rcases List.mem_cons.mp hp with rfl | hp
        · exact Nat.ne_of_gt (lX _ (i2 _ (i1 _ ha))) e
        · exact fD p (.tail _ hp) _ (.tail _ (i2 _ (i1 _ ha))) e.symm
  refine ⟨key M1 o1 h1 (Nat.ne_of_lt lO.2), key M2 o2 h2 (Nat.ne_of_lt lO.1), Nat.ne_of_lt l12, ?_, ?_, fun p hp => (f1' p hp).2.2, ?_, fun p hp => (f1' p hp).2.1, ?_, ?_⟩
  · intro p hp q hq e
    rcases List.mem_cons.mp hq with rfl | hq
    · exact fD _ (.head _) p (.tail _ (i2 _ (iA _ hp))) e.symm
    · rcases List.mem_cons.mp hq with rfl | hq
      · exact (f1' p hp).1 e.symm
      · rcases List.mem_cons.mp hq with rfl | hq
        · exact Nat.ne_of_lt (lX _ (i2 _ (iA _ hp))) e.symm
        · exact fD q (.tail _ hq) p (.tail _ (i2 _ (iA _ hp))) e.symm
  · intro p hp q hq e
    rcases List.mem_cons.mp hq with rfl | hq
    · exact fD _ (.head _) p (.tail _ (iB _ hp)) e.symm
    · rcases List.mem_cons.mp hq with rfl | hq
      · exact f2 p (.tail _ hp) _ (i1 _ hO) e
      · rcases List.mem_cons.mp hq with rfl | hq
        · exact Nat.ne_of_lt (lX _ (iB _ hp)) e.symm
        · exact fD q (.tail _ hq) p (.tail _ (iB _ hp)) e.symm
  · exact fun p hp e => f2 p (.tail _ hp) _ (i1 _ h1) e.symm
  · exact fun p hp e => f2 p (.tail _ hp) _ (i1 _ h2) e.symm
  · exact fun p hp q hq e => f2 q (.tail _ hq) p (iA _ hp) e.symm
theorem meth_encode {M : Model} {A : Around} {E : Value → Shared → Prop} {s : Shared} {x : Str} {t : Tok} {pl : Sem Bool} {Q : Value × List Value → Shared → Prop} (h : Q (.builtin "str.encode", [.str x t]) s) : wpAny M A (getMethod (.str x t) "encode" pl) Q E s := by
  with_reducible exact GM.of (.str x t) (typeIs_str _ _ _) F.slot_str_encode F.type_str_encode GM.noRef h
theorem nm2 {P : Prop} {a b : Addr} (h9 : @_root_.LT.lt Nat _ a b) (k : ∀ a' b' : Addr, a' = a → b' = b → P) : P := k a b rfl rfl
theorem nm1 {P : Prop} {a b : Addr} {l : Led} (h9 : @_root_.LT.lt Nat _ a b ∧ AllLt b l) (k : ∀ b' : Addr, b' = b → P) : P := k b rfl
theorem nmO {P : Prop} {a b c : Addr} (h9 : @_root_.LT.lt Nat _ a b ∧ @_root_.LT.lt Nat _ c b) (k : ∀ b' : Addr, b' = b → P) : P := k b rfl
theorem nmF {P : Prop} {h h' : Heap} {L : Addr} {m : Str → Option Value} (F9 : Fr h L h' m) (k : ∀ m₀, m₀ = m → P) : P := k m rfl
theorem pl_sub {d mo lx s1 s2 m1 m2 : Addr × Obj} {A B led : Led} : ∀ p ∈ d :: mo :: lx :: m1 :: m2 :: (A ++ (B ++ led)), p ∈ d :: (led ++ lx :: s2 :: (B ++ s1 :: (A ++ [mo, m2, m1]))) := by
  intro p hp
  simp only [List.mem_cons, List.mem_append, List.not_mem_nil, or_false] at hp ⊢
  rcases hp with h | h | h | h | h | h | h | h <;> simp only [h, true_or, or_true]
theorem sub_due1 {e q i d mo lx m1 m2 : Addr × Obj} {T : Led} : ∀ p ∈ i :: d :: mo :: lx :: m2 :: T, p ∈ e :: q :: i :: d :: mo :: lx :: m1 :: m2 :: T := by
  intro p hp
  simp only [List.mem_cons] at hp ⊢
  rcases hp with h | h | h | h | h | h <;> simp only [h, true_or, or_true]
theorem sub_due2 {e q i d mo lx m1 m2 : Addr × Obj} {T : Led} : ∀ p ∈ i :: d :: mo :: lx :: m1 :: T, p ∈ e :: q :: i :: d :: mo :: lx :: m1 :: m2 :: T := by
  intro p hp
  simp only [List.mem_cons] at hp ⊢
  rcases hp with h | h | h | h | h | h <;> simp only [h, true_or, or_true]
theorem sub_deed1 {i d mo lx m1 m2 : Addr × Obj} {A B led : Led} : ∀ p ∈ m1 :: i :: d :: mo :: lx :: m2 :: (B ++ led), p ∈ m1 :: i :: d :: mo :: lx :: m2 :: (A ++ (B ++ led)) := by
  intro p hp
  simp only [List.mem_cons, List.mem_append] at hp ⊢
  rcases hp with h | h | h | h | h | h | h | h <;> simp only [h, true_or, or_true]
theorem sub_deed2 {i d mo lx m1 m2 : Addr × Obj} {A B led : Led} : ∀ p ∈ m2 :: i :: d :: mo :: lx :: m1 :: (A ++ led), p ∈ m2 :: i :: d :: mo :: lx :: m1 :: (A ++ (B ++ led)) := by
  intro p hp
  simp only [List.mem_cons, List.mem_append] at hp ⊢
  rcases hp with h | h | h | h | h | h | h | h <;> simp only [h, true_or, or_true]
theorem mem_A1 {i d mo lx m1 m2 : Addr × Obj} {A B led : Led} : ∀ p ∈ A, p ∈ m1 :: i :: d :: mo :: lx :: m2 :: (A ++ (B ++ led)) := by
  intro p hp
  simp only [List.mem_cons, List.mem_append, hp, true_or, or_true]
theorem mem_B2 {i d mo lx m1 m2 : Addr × Obj} {A B led : Led} : ∀ p ∈ B, p ∈ m2 :: i :: d :: mo :: lx :: m1 :: (A ++ (B ++ led)) := by
  intro p hp
  simp only [List.mem_cons, List.mem_append, hp, true_or, or_true]
theorem sub_fin1 {i d mo lx m1 m2 : Addr × Obj} {A B led : Led} : ∀ p ∈ i :: d :: mo :: lx :: m1 :: m2 :: (A ++ (B ++ led)), p ∈ A ++ (m1 :: i :: d :: mo :: lx :: m2 :: (B ++ led)) := by
  intro p hp
  simp only [List.mem_cons, List.mem_append] at hp ⊢
  rcases hp with h | h | h | h | h | h | h | h | h <;> simp only [h, true_or, or_true]
theorem sub_fin2 {i d mo lx m1 m2 : Addr × Obj} {A B led : Led} : ∀ p ∈ i :: d :: mo :: lx :: m1 :: m2 :: (A ++ (B ++ led)), p ∈ B ++ (m2 :: i :: d :: mo :: lx :: m1 :: (A ++ led)) := by
  intro p hp
  simp only [List.mem_cons, List.mem_append] at hp ⊢
  rcases hp with h | h | h | h | h | h | h | h | h <;> simp only [h, true_or, or_true]
section
variable {d mo lx : Addr × Obj} {a b I : Addr} {oa ob oi : Obj} {A B led : Led}
theorem Five.due1 (V : Five (d :: mo :: lx :: led) a b A B) (ha : @Ne Nat a I) : Disj [(a, oa)] ((I, oi) :: d :: mo :: lx :: (b, ob) :: (A ++ (B ++ led))) := by
  intro p hp q hq e
  rw [List.mem_singleton.mp hp] at e
  have k := V.ka
  simp only [List.mem_cons, List.mem_append] at hq
  rcases hq with rfl | h | h | h | rfl | h | h | h
  · exact ha e.symm
  · exact k q (by simp only [h, List.mem_cons, true_or, or_true]) e
  · exact k q (by simp only [h, List.mem_cons, true_or, or_true]) e
  · exact k q (by simp only [h, List.mem_cons, true_or, or_true]) e
  · exact V.ab e.symm
  · exact V.aA q h e
  · exact V.aB q h e
  · exact k q (by simp only [h, List.mem_cons, true_or, or_true]) e
theorem Five.due2 (V : Five (d :: mo :: lx :: led) a b A B) (hb : @Ne Nat b I) : Disj [(b, ob)] ((I, oi) :: d :: mo :: lx :: (a, oa) :: (A ++ (B ++ led))) := by
  intro p hp q hq e
  rw [List.mem_singleton.mp hp] at e
  have k := V.kb
  simp only [List.mem_cons, List.mem_append] at hq
  rcases hq with rfl | h | h | h | rfl | h | h | h
  · exact hb e.symm
  · exact k q (by simp only [h, List.mem_cons, true_or, or_true]) e
  · exact k q (by simp only [h, List.mem_cons, true_or, or_true]) e
  · exact k q (by simp only [h, List.mem_cons, true_or, or_true]) e
  · exact V.ab e
  · exact V.bA q h e
  · exact V.bB q h e
  · exact k q (by simp only [h, List.mem_cons, true_or, or_true]) e
theorem Five.deed1 (V : Five (d :: mo :: lx :: led) a b A B) (ha : ∀ p ∈ A, p.1 ≠ I) : Disj A ((a, oa) :: (I, oi) :: d :: mo :: lx :: (b, ob) :: (B ++ led)) := by
  intro p hp q hq e
  have k := fun q hq => V.kA p hp q hq
  simp only [List.mem_cons, List.mem_append] at hq
  rcases hq with rfl | rfl | h | h | h | rfl | h | h
  · exact V.aA p hp e.symm
  · exact ha p hp e.symm
  · exact k q (by simp only [h, List.mem_cons, true_or, or_true]) e
  · exact k q (by simp only [h, List.mem_cons, true_or, or_true]) e
  · exact k q (by simp only [h, List.mem_cons, true_or, or_true]) e
  · exact V.bA p hp e.symm
  · exact V.AB p hp q h e
  · exact k q (by simp only [h, List.mem_cons, true_or, or_true]) e
theorem Five.deed2 (V : Five (d :: mo :: lx :: led) a b A B) (hb : ∀ p ∈ B, p.1 ≠ I) : Disj B ((b, ob) :: (I, oi) :: d :: mo :: lx :: (a, oa) :: (A ++ led)) := V.swap.deed1 hb
theorem Five.new1 {A' : Led} (V : Five (d :: mo :: lx :: led) a b A B) (h : Disj A' ((a, oa) :: (I, oi) :: d :: mo :: lx :: (b, ob) :: (B ++ led))) : Five (d :: mo :: lx :: led) a b A' B ∧ ∀ p ∈ A', p.1 ≠ I := by
  refine ⟨⟨V.ka, V.kb, V.ab, fun p hp q hq => h p hp q ?_, V.kB, fun p hp e => h p hp _ (.head _) e.symm, V.aB, fun p hp e => h p hp _ (.tail _ (.tail _ (.tail _ (.tail _ (.tail _ (.head _)))))) e.symm, V.bB, fun p hp q hq => h p hp q ?_⟩, fun p hp e => h p hp _ (.tail _ (.head _)) e.symm⟩
  · simp only [List.mem_cons, List.mem_append] at hq ⊢
    rcases hq with h | h | h | h <;> simp only [h, true_or, or_true]
  · simp only [List.mem_cons, List.mem_append, hq, true_or, or_true]
theorem Five.new2 {B' : Led} (V : Five (d :: mo :: lx :: led) a b A B) (h : Disj B' ((b, ob) :: (I, oi) :: d :: mo :: lx :: (a, oa) :: (A ++ led))) : Five (d :: mo :: lx :: led) a b A B' ∧ ∀ p ∈ B', p.1 ≠ I :=
  let ⟨x, y⟩ := V.swap.new1 h; ⟨x.swap, y⟩
end
theorem dueR_len {kind size : Int} {b R : List Nat} : (dueR kind size b R).length ≤ R.length + b.length := by
  unfold dueR
  split
  · simp; omega
  · split
    · simp; omega
    · omega
theorem off_new {d mo lx : Addr × Obj} {a b I : Addr} {oa ob oa' ob' : Obj} {A B A' B' led : Led} (off : ∀ p ∈ d :: mo :: lx :: (a, oa) :: (b, ob) :: (A ++ (B ++ led)), p.1 ≠ I) (hA : ∀ p ∈ A', p.1 ≠ I) (hB : ∀ p ∈ B', p.1 ≠ I) :
    ∀ p ∈ d :: mo :: lx :: (a, oa') :: (b, ob') :: (A' ++ (B' ++ led)), p.1 ≠ I := by
  intro p hp
  simp only [List.mem_cons, List.mem_append] at hp
  rcases hp with h | h | h | rfl | rfl | h | h | h
  · exact off p (by simp only [List.mem_cons, h, true_or, or_true])
  · exact off p (by simp only [List.mem_cons, h, true_or, or_true])
  · exact off p (by simp only [List.mem_cons, h, true_or, or_true])
  · exact off (a, oa) (.tail _ (.tail _ (.tail _ (.head _))))
  · exact off (b, ob) (.tail _ (.tail _ (.tail _ (.tail _ (.head _)))))
  · exact hA p h
  · exact hB p h
  · exact off p (by simp only [List.mem_cons, List.mem_append, h, true_or, or_true])
end Mine
end

section
open PySem PySem.W PySem.Calls PyProof.Rows
set_option Elab.async false
set_option maxRecDepth 100000
set_option maxHeartbeats 4000000
namespace Mine
theorem map_same {A B C : Str} {M : Str → Option Value} : M = (fun y => if y = A then M A else if y = B then M B else if y = C then M C else M y) := by
  funext y
  by_cases h1 : y = A
  · simp only [h1, if_true]
  · by_cases h2 : y = B
    · subst h2; simp only [h1, if_true, if_false]
    · by_cases h3 : y = C
      · subst h3; simp only [h1, h2, if_true, if_false]
      · simp only [h1, h2, h3, if_false]
theorem fr_three {g h : Heap} {L : Addr} {M : Str → Option Value} {A B C : Str} {a b c : Option Value} (F : Fr g L h M) (ha : M A = a) (hb : M B = b) (hc : M C = c) : Fr g L h (fun y => if y = A then a else if y = B then b else if y = C then c else M y) := by
  subst ha hb hc
  rw [← map_same]
  exact F
theorem sub_rd1 {e i d mo lx m1 m2 : Addr × Obj} {A B led : Led} : ∀ p ∈ m1 :: i :: d :: mo :: lx :: m2 :: (B ++ led), p ∈ e :: i :: d :: mo :: lx :: m1 :: m2 :: (A ++ (B ++ led)) := by
  intro p hp
  simp only [List.mem_cons, List.mem_append] at hp ⊢
  rcases hp with h | h | h | h | h | h | h | h <;> simp only [h, true_or, or_true]
theorem mem_rd1 {e i d mo lx m1 m2 : Addr × Obj} {A B led : Led} : ∀ p ∈ A, p ∈ e :: i :: d :: mo :: lx :: m1 :: m2 :: (A ++ (B ++ led)) := by
  intro p hp
  simp only [List.mem_cons, List.mem_append, hp, true_or, or_true]
theorem sub_rd2 {e i d mo lx m1 m2 : Addr × Obj} {A B led : Led} : ∀ p ∈ m2 :: i :: d :: mo :: lx :: m1 :: (A ++ led), p ∈ e :: i :: d :: mo :: lx :: m1 :: m2 :: (A ++ (B ++ led)) := by
  intro p hp
  simp only [List.mem_cons, List.mem_append] at hp ⊢
  rcases hp with h | h | h | h | h | h | h | h <;> simp only [h, true_or, or_true]
theorem mem_rd2 {e i d mo lx m1 m2 : Addr × Obj} {A B led : Led} : ∀ p ∈ B, p ∈ e :: i :: d :: mo :: lx :: m1 :: m2 :: (A ++ (B ++ led)) := by
  intro p hp
  simp only [List.mem_cons, List.mem_append, hp, true_or, or_true]
theorem sub_open1 {i d mo lx m1 m2 : Addr × Obj} {A B led : Led} : ∀ p ∈ A ++ (m1 :: i :: d :: mo :: lx :: m2 :: (B ++ led)), p ∈ i :: d :: mo :: lx :: m1 :: m2 :: (A ++ (B ++ led)) := by
  intro p hp
  simp only [List.mem_cons, List.mem_append] at hp ⊢
  rcases hp with h | h | h | h | h | h | h | h | h <;> simp only [h, true_or, or_true]
theorem sub_open2 {i d mo lx m1 m2 : Addr × Obj} {A B led : Led} : ∀ p ∈ B ++ (m2 :: i :: d :: mo :: lx :: m1 :: (A ++ led)), p ∈ i :: d :: mo :: lx :: m1 :: m2 :: (A ++ (B ++ led)) := by
  intro p hp
  simp only [List.mem_cons, List.mem_append] at hp ⊢
  rcases hp with h | h | h | h | h | h | h | h | h <;> simp only [h, true_or, or_true]
section
variable {prog : Program} {w : World} {A : Around} {E : Value → Shared → Prop} {s : Shared} {Q : Value → Shared → Prop}
theorem my_nes {l : List Nat} {t u : Tok} (h : Q (.bool false) s) : wpAny (model prog w) A (compareOp .NotEq (.str (txt l) t) (.str (txt l) u)) Q E s := my_ne (o := some l) ⟨_, rfl⟩ ⟨_, rfl⟩ h
theorem my_ne0 {t u : Tok} (h : Q (.bool false) s) : wpAny (model prog w) A (compareOp .NotEq (.str (txt []) t) (.str (Str.ofString "") u)) Q E s := my_ne (o := some []) ⟨_, rfl⟩ ⟨u, by rw [empty_txt]⟩ h
end
end Mine
end

section
open PySem PySem.W PySem.Calls PyProof.Rows
set_option Elab.async false
set_option maxRecDepth 100000
set_option maxHeartbeats 4000000
namespace Mine

set_option rowWalk.seconds 0

local macro_rules | `(tactic| walk_at "m_go") => `(tactic| repeat' (
  (fail_if_success (with_reducible show PySem.wpAny _ _ (PySem.call (PySem.Value.ref _) _) _ _ _))
  (fail_if_success (with_reducible show PySem.wpAny _ _ (PySem.exec (PySem.Stmt.While _ _ _ _) _) _ _ _))
  (fail_if_success (with_reducible show Mine.EndB _ _ _ _ _ _))
  (first | (k_unfold; (try dsimp only)) | walk1 | (dsimp only; walk1) | fail "no step")))

theorem tells_next (w : World) (x dx qa fx sm : Addr) (h1 : @Ne Nat x dx) (h2 : @Ne Nat x sm) (h3 : @Ne Nat dx sm) (y1 y2 y3 y4 y5 y6 : Int) (j1 j2 j3 j4 j5 j6 : Tok) : Tells w 601 340 45 (fun _ => True) [(x, instObj 648 dx), (dx, dictOf [⟨y1, .str (Str.ofString "f") j1, .ref fx⟩, ⟨y2, .str (Str.ofString "debug") j2, .bool false⟩, ⟨y3, .str (Str.ofString "q") j3, .ref qa⟩, ⟨y4, .str (Str.ofString "state") j4, .ref sm⟩, ⟨y5, .str (Str.ofString "escaped") j5, .bool false⟩, ⟨y6, .str (Str.ofString "eof") j6, .bool false⟩] 6), (sm, methodObj (.ref 645) (.ref x))] [.ref x] (fun v mods' => v = .none ∧ mods' = [(x, instObj 648 dx), (dx, dictOf [⟨y1, .str (Str.ofString "f") j1, .ref fx⟩, ⟨y2, .str (Str.ofString "debug") j2, .bool false⟩, ⟨y3, .str (Str.ofString "q") j3, .ref qa⟩, ⟨y4, .str (Str.ofString "state") j4, .none⟩, ⟨y5, .str (Str.ofString "escaped") j5, .bool false⟩, ⟨y6, .str (Str.ofString "eof") j6, .bool false⟩] 6), (sm, methodObj (.ref 645) (.ref x))]) := by
  have kf : (hd.heap_39 w.params).In = (hd.heap_39 w.params).In ∧ PySem.Challenge.rw_gr5003_01 = PySem.Challenge.rw_gr5003_01 := ⟨rfl, rfl⟩
  revert kf
  w_top off
  k_fill
  intro _
  refine' tells_of_body (binds := [(Str.ofString "self", .ref x)]) ?ho ?hcd (by decide) (fun _ _ _ h => h) ?hb ?hl ?hc ?h1 ?h2 ?h3 ?body
  case ho => k_dflt k_is
  case hcd => k_dflt k_is
  case hb => intro s X; first | exact BindsTo.of_eq rfl | exact binds_K X rfl (by k_dflt k_is) rfl rfl rfl
  case hl => exact locs rfl
  case hc => decide
  case h1 => rfl
  case h2 => rfl
  case h3 => rfl
  intro mean mg mb outer base g L' s A₀ B F X N T PR LT
  try dsimp only
  k_fold
  have LT2 := allLt_of LT
  simp only [AllLt, and_true] at LT2

  k_steps
  rename News _ _ _ _ => NN
  exact endB_of (by assumption) (fun p hp => NN p (.tail _ hp)) ⟨rfl, rfl⟩
end Mine
end

section
open PySem PySem.W PySem.Calls PyProof.Rows
set_option Elab.async false
set_option maxRecDepth 100000
set_option maxHeartbeats 4000000
namespace Mine
def GenObj (o : Obj) (g : Nat) : Prop := ∃ nm qn, o.cls = .type "generator" ∧ o.data = .fields #[.int g 0, nm, qn] ∧ o.slots = #[]
def FrameO (o : Obj) (m : Str → Option Value) : Prop := ∃ es ep, o.data = .dict es ep ∧ StrKeys es ∧ ∀ name, nsFind es name = m name
def TellsG (w : World) (f : Addr) (DP UN : Nat) (mods : Led) (args : List Value) (Post : Nat → Array GenState → Value → Led → Array GenState → Prop) : Prop :=
  ∀ (mean : ExcName → Option Value) (mg mb : Str → Option Value) (dp un : Nat) (gd : Option (List Code)) (cn : Str) (cs : Scope) (a : Addr) (ccd : Value) (cl : List (Str × Addr)) (outer : List Env) (A₀ : Around) (base h₀ : Heap) (L : Addr) (m : Str → Option Value) (s : Shared) (Q E : Value → Shared → Prop),
    dp ≤ DP → un ≤ UN → Below A₀ base outer h₀ → Fr h₀ L s.heap m → (hd.heap_39 w.params).In h₀ → News h₀ L s.heap mods → Top hd.view_39 LOO mean mg mb h₀ → cs.kind = .function →
    (∀ v h' tk' mods' gs', Fr h₀ L h' m → News h₀ L h' mods' → Kept s.heap mods h' → Fresh s.heap mods mods' → Post s.heap.objs.size s.gens v mods' gs' → Q v { s with heap := h', toks := tk', gens := gs' }) →
    wpAny (model PySem.Challenge.rw_gr5003_01.row.prog w) (ktrTop dp un gd cn cs L a ccd cl outer) (call (.ref f) args) Q E s

def EndBG (g : Heap) (L : Addr) (s₀ : Shared) (Post : Nat → Array GenState → Value → Led → Array GenState → Prop) (v : Value) (s' : Shared) : Prop :=
  ∃ h' tk' m' mods' gs', s' = { s₀ with heap := h', toks := tk', gens := gs' } ∧ Fr g L h' m' ∧ News g L h' mods' ∧ Post g.objs.size s₀.gens v mods' gs'

theorem tells_of_bodyG {w : World} {f : Addr} {DP UN : Nat} {mods : Led} {args : List Value} {Post : Nat → Array GenState → Value → Led → Array GenState → Prop}
    {name qual : Str} {params : Arguments} {body : List Stmt} {scope : Scope} {dV kV doc pm cdv ct oc : Value} {an od : Option Addr} {osl : Array (Option Value)} {binds : List (Str × Value)}
    (ho : (hd.heap_39 w.params).lookup f = some ⟨oc, od, .func (fnOf name qual params body scope dV kV doc pm an cdv ct), osl⟩)
    (hcd : codeIn (hd.heap_39 w.params) cdv qual = true) (hroom : DP < recursionLimit)
    (hbind : ∀ s : Shared, (hd.heap_39 w.params).In s.heap → BindsTo s (fnOf name qual params body scope dV kV doc pm an cdv ct) ⟨args, []⟩ binds)
    (hloc : ∀ y ∈ binds, scope.names.lookup y.1 = some .local)
    (hcell : ∀ x ∈ scope.names, x.2 ≠ .cell) (hco : scope.isCoroutine = false) (hgen : scope.isGenerator = false) (hk : scope.kind = .function)
    (hbody : ∀ (mean : ExcName → Option Value) (mg mb : Str → Option Value) (outer : List Env) (base g : Heap) (L' : Addr) (s : Shared) (A₀ : Around),
      Below A₀ base outer g → Fr g L' s.heap (fun y => binds.reverse.lookup y) → (hd.heap_39 w.params).In g → News g L' s.heap mods → Top hd.view_39 LOO mean mg mb g → (∀ p ∈ mods, p.1 < L') →
      wpAny (model PySem.Challenge.rw_gr5003_01.row.prog w) (ktrTop (DP + 1) (UN + 3) none qual scope L' f cdv [] outer) (execs body (envX qual scope L' f cdv []))
        (fun fl s' => EndBG g L' s Post (match fl with | .ret v => v | _ => .none) s') (fun _ _ => False) s) :
    TellsG w f DP UN mods args Post := by
  intro mean mg mb dp un gd cn cs a ccd cl outer A₀ base h₀ L m s Q E hdp hun B F X N T hck ret
  refine wpAny_weaken (A := ktrTop DP UN none cn cs L a ccd cl outer) ?_ rfl hdp rfl rfl hun
  refine wpAny_call ?_
  have X' : (hd.heap_39 w.params).In s.heap := X.keeps F.keep
  obtain ⟨FG, BG, st, lv⟩ := groundX (R := fun r s' => match r with | .ok (.ret v) => Q v s' | .ok _ => False | .error e => E e s') (A := ktrTop DP UN none cn cs L a ccd cl outer) (env := envX cn cs L a ccd cl) B F N rfl rfl hck
  refine codeAny_call_def (fd := fnOf name qual params body scope dV kV doc pm an cdv ct) (body := body) (binds := binds) hroom (X' _ _ ho) rfl (T.nolimit.keeps F.keep) (codeRec_of X' hcd) rfl (hbind s X') hcell hloc (fun h₁ hns hk₁ => ?_) hco hgen hk
  have key := hbody mean mg mb (envX cn cs L a ccd cl :: outer) base _ s.heap.objs.size { s with heap := h₁, toks := s.toks + binds.length } _ BG
    ⟨hns, fun b o e => hk₁ b o (of_hideAll _ e), Nat.le_of_eq (hideAll_size _ _)⟩ (X.keeps st)
    (fun p hp => ⟨hk₁ _ _ (N p hp).1, Nat.ne_of_lt (Heap.lt_size (N p hp).1), hideAll_none _ (List.mem_map_of_mem hp)⟩) (T.keeps st) (fun p hp => Heap.lt_size (N p hp).1)
  refine wpAny_mono key (fun fl s' hl => ?_) fun _ _ x => x.elim
  obtain ⟨h', tk', m', mods', gs', rfl, F', N', hP⟩ := hl
  rw [hideAll_size] at hP
  refine lv _ _ ⟨_, m', mods', F', N', fun FF NN => ?_⟩
  refine ret _ _ _ mods' gs' FF NN (fun b o e hne => F'.keep b o (hideAll_get _ e fun q => ?_)) (fun p hp => ?_) hP
  · obtain ⟨p, hp, e'⟩ := List.mem_map.mp q
    exact hne p hp e'
  · by_cases hq : ∃ q ∈ mods, q.1 = p.1
    · exact .inl hq
    · right
      cases e : s.heap.get? p.1 with
      | none => rfl
      | some o =>
        have h1 := (N' p hp).2.2
        rw [hideAll_get _ e fun q => hq (by obtain ⟨p', hp', e'⟩ := List.mem_map.mp q; exact ⟨p', hp', e'⟩)] at h1
        cases h1

theorem fr_up {h₀ h h' : Heap} {L : Addr} {m : Str → Option Value} (F : Fr h₀ L h m) (k : ∀ b o, h.get? b = some o → h'.get? b = some o) : Fr h₀ L h' m :=
  let ⟨o, es, ep, a, b⟩ := F.ns
  ⟨⟨o, es, ep, k _ _ a, b⟩, fun b o e => k _ _ (F.keep b o e), F.above⟩
theorem new_none {h₀ h : Heap} {L a : Addr} {m : Str → Option Value} (F : Fr h₀ L h m) (ha : @LE.le Nat _ h.objs.size a) : h₀.get? a = none := by
  cases e : h₀.get? a with
  | none => rfl
  | some o => exact absurd (Heap.lt_size (F.keep _ _ e)) (Nat.not_lt.mpr ha)
theorem get_none {h : Heap} {a : Addr} (ha : @LE.le Nat _ h.objs.size a) : h.get? a = none := by
  cases e : h.get? a with
  | none => rfl
  | some o => exact absurd (Heap.lt_size e) (Nat.not_lt.mpr ha)

def GenP (f : Addr) (qual : Str) (scope : Scope) (cdv : Value) (body : List Stmt) (M3 : Led) (mp : Str → Option Value) (lo : Nat) (gens : Array GenState) (v : Value) (mods' : Led) (gs' : Array GenState) : Prop :=
  ∃ (G Lf : Addr) (oG oF : Obj), v = .ref G ∧ mods' = (G, oG) :: (Lf, oF) :: M3 ∧ @LE.le Nat _ lo Lf ∧ @Ne Nat Lf G ∧ gs' = gens.push (.fresh (.func body (envX qual scope Lf f cdv []))) ∧ GenObj oG gens.size ∧ FrameO oF mp
theorem tells_of_gen {w : World} {f : Addr} {DP UN : Nat} {args : List Value}
    {name qual : Str} {params : Arguments} {body : List Stmt} {scope : Scope} {dV kV doc pm cdv ct oc : Value} {an od : Option Addr} {osl : Array (Option Value)} {binds : List (Str × Value)}
    (ho : (hd.heap_39 w.params).lookup f = some ⟨oc, od, .func (fnOf name qual params body scope dV kV doc pm an cdv ct), osl⟩)
    (hcd : codeIn (hd.heap_39 w.params) cdv qual = true) (hroom : DP < recursionLimit)
    (hbind : ∀ s : Shared, (hd.heap_39 w.params).In s.heap → BindsTo s (fnOf name qual params body scope dV kV doc pm an cdv ct) ⟨args, []⟩ binds)
    (hloc : ∀ y ∈ binds, scope.names.lookup y.1 = some .local)
    (hcell : ∀ x ∈ scope.names, x.2 ≠ .cell) (hco : scope.isCoroutine = false) (hgen : scope.isGenerator = true) (hk : scope.kind = .function) :
    TellsG w f DP UN [] args (GenP f qual scope cdv body [] (fun y => binds.reverse.lookup y)) := by
  intro mean mg mb dp un gd cn cs a ccd cl outer A₀ base h₀ L m s Q E hdp hun B F X N T hck ret
  refine wpAny_weaken (A := ktrTop DP UN none cn cs L a ccd cl outer) ?_ rfl hdp rfl rfl hun
  refine wpAny_call ?_
  have X' : (hd.heap_39 w.params).In s.heap := X.keeps F.keep
  refine codeAny_call_generator (fd := fnOf name qual params body scope dV kV doc pm an cdv ct) (body := body) hroom (X' _ _ ho) rfl hco hgen rfl (codeRec_of X' hcd) (hbind s X' _ _ _ _ ?_)
  refine wpAny_newFunctionEnv hcell hloc (fun h₁ hns hsb => ⟨(T.nolimit.keeps F.keep).fresh _ hsb, ?_⟩) hk
  have hk₁ : ∀ b o, s.heap.get? b = some o → h₁.get? b = some o := fun b o e => hsb.extBut b o (Nat.ne_of_lt (Heap.lt_size e)) (Heap.get?_push_of_some _ e)
  have hsz : h₁.objs.size = s.heap.objs.size + 1 := by rw [hsb.1, Heap.size_push]
  have hLs : @LT.lt Nat _ L s.heap.objs.size := F.ns.lt
  obtain ⟨oF, es, ep, hF, hFd, hFk, hFn⟩ := hns
  have key := fun oG tk gs => ret (.ref h₁.objs.size) (h₁.push oG) tk [(h₁.objs.size, oG), (s.heap.objs.size, oF)] gs (fr_up F fun b o e => Heap.get?_push_of_some _ (hk₁ b o e))
  refine key _ _ _ ?_ (fun b o e _ => Heap.get?_push_of_some _ (hk₁ b o e)) ?_ ⟨h₁.objs.size, s.heap.objs.size, _, oF, rfl, rfl, Nat.le_refl _, by rw [hsz]; exact Nat.ne_of_lt (Nat.lt_succ_self _), rfl, ?_, ⟨es, ep, hFd, hFk, hFn⟩⟩
  · intro p hp
    rcases List.mem_cons.mp hp with rfl | hp
    · exact ⟨Heap.get?_push_size _ rfl, by show h₁.objs.size ≠ L; omega, new_none F (by show @LE.le Nat _ _ h₁.objs.size; omega)⟩
    · rw [List.mem_singleton.mp hp]
      exact ⟨Heap.get?_push_of_some _ hF, by show s.heap.objs.size ≠ L; omega, new_none F (Nat.le_refl _)⟩
  · intro p hp
    rcases List.mem_cons.mp hp with rfl | hp
    · exact .inr (get_none (by show @LE.le Nat _ _ h₁.objs.size; omega))
    · rw [List.mem_singleton.mp hp]
      exact .inr (get_none (Nat.le_refl _))
  · exact ⟨_, _, rfl, rfl, rfl⟩
end Mine
end

section
open PySem PySem.W PySem.Calls PyProof.Rows
set_option Elab.async false
set_option maxRecDepth 100000
set_option maxHeartbeats 4000000
namespace Mine

set_option rowWalk.seconds 0

local macro_rules | `(tactic| walk_at "m_go") => `(tactic| repeat' (
  (fail_if_success (with_reducible show PySem.wpAny _ _ (PySem.call (PySem.Value.ref _) _) _ _ _))
  (fail_if_success (with_reducible show PySem.wpAny _ _ (PySem.exec (PySem.Stmt.While _ _ _ _) _) _ _ _))
  (fail_if_success (with_reducible show Mine.EndB _ _ _ _ _ _))
  (first | (k_unfold; (try dsimp only)) | walk1 | (dsimp only; walk1) | fail "no step")))

abbrev selfM (x : Addr) : Str → Option Value := fun y => [(Str.ofString "self", Value.ref x)].reverse.lookup y
def IterOK (w : World) (x : Addr) (M3 : Led) : Prop := ∃ (qual : Str) (body : List Stmt) (scope : Scope) (cdv : Value), scope.kind = .function ∧
  TellsG w 594 340 40 M3 [.ref x] (GenP 608 qual scope cdv body M3 (selfM x)) ∧
  ∀ (mean : ExcName → Option Value) (mg mb : Str → Option Value) (outer : List Env) (base g : Heap) (L' : Addr) (s : Shared) (A₀ : Around),
      Below A₀ base outer g → Fr g L' s.heap (selfM x) → (hd.heap_39 w.params).In g → News g L' s.heap M3 → Top hd.view_39 LOO mean mg mb g →
      wpAny (model PySem.Challenge.rw_gr5003_01.row.prog w) (ktrTop 330 40 none qual scope L' 608 cdv [] outer) (execs body (envX qual scope L' 608 cdv []))
        (fun fl s' => EndB g L' s (fun v _ => v = .none) (match fl with | .ret v => v | _ => .none) s') (fun _ _ => False) s
theorem iterOK_of {w : World} {x : Addr} {M3 : Led} {qual : Str} {body : List Stmt} {scope : Scope} {cdv : Value} (tg : TellsG w 608 360 60 [] [.ref x] (GenP 608 qual scope cdv body [] (selfM x)))
  (a : scope.kind = .function) (b : TellsG w 594 340 40 M3 [.ref x] (GenP 608 qual scope cdv body M3 (selfM x))) (c : ∀ (mean : ExcName → Option Value) (mg mb : Str → Option Value) (outer : List Env) (base g : Heap) (L' : Addr) (s : Shared) (A₀ : Around),
      Below A₀ base outer g → Fr g L' s.heap (selfM x) → (hd.heap_39 w.params).In g → News g L' s.heap M3 → Top hd.view_39 LOO mean mg mb g →
      wpAny (model PySem.Challenge.rw_gr5003_01.row.prog w) (ktrTop 330 40 none qual scope L' 608 cdv [] outer) (execs body (envX qual scope L' 608 cdv []))
        (fun fl s' => EndB g L' s (fun v _ => v = .none) (match fl with | .ret v => v | _ => .none) s') (fun _ _ => False) s) : IterOK w x M3 := ⟨_, _, _, _, a, b, c⟩
theorem iter_ok (w : World) (x dx qa fx sm : Addr) (h1 : @Ne Nat x dx) (h2 : @Ne Nat x sm) (h3 : @Ne Nat dx sm) (y1 y2 y3 y4 y5 y6 : Int) (j1 j2 j3 j4 j5 j6 : Tok) : IterOK w x [(x, instObj 648 dx), (dx, dictOf [⟨y1, .str (Str.ofString "f") j1, .ref fx⟩, ⟨y2, .str (Str.ofString "debug") j2, .bool false⟩, ⟨y3, .str (Str.ofString "q") j3, .ref qa⟩, ⟨y4, .str (Str.ofString "state") j4, .ref sm⟩, ⟨y5, .str (Str.ofString "escaped") j5, .bool false⟩, ⟨y6, .str (Str.ofString "eof") j6, .bool false⟩] 6), (sm, methodObj (.ref 645) (.ref x))] := by
  have kf : (hd.heap_39 w.params).In = (hd.heap_39 w.params).In ∧ PySem.Challenge.rw_gr5003_01 = PySem.Challenge.rw_gr5003_01 := ⟨rfl, rfl⟩
  revert kf
  w_top off
  k_fill
  intro kf
  have tg := tells_of_gen (w := w) (f := 608) (DP := 360) (UN := 60) (args := [.ref x]) (binds := [(Str.ofString "self", .ref x)]) (by k_dflt k_is) (by k_dflt k_is) (by decide) (by intro s X; first | exact BindsTo.of_eq rfl | exact binds_K X rfl (by k_dflt k_is) rfl rfl rfl) (by exact locs rfl) (by decide) (by rfl) (by rfl) (by rfl)
  refine' iterOK_of tg rfl ?it ?bd
  case it =>
    refine' tells_of_bodyG (binds := [(Str.ofString "self", .ref x)]) ?ho ?hcd (by decide) ?hb ?hl ?hc ?h1 ?h2 ?h3 ?body
    case ho => k_dflt k_is
    case hcd => k_dflt k_is
    case hb => intro s X; first | exact BindsTo.of_eq rfl | exact binds_K X rfl (by k_dflt k_is) rfl rfl rfl
    case hl => exact locs rfl
    case hc => decide
    case h1 => rfl
    case h2 => rfl
    case h3 => rfl
    intro mean mg mb outer base g L' s A₀ B F X N T LT
    try dsimp only
    k_fold
    have LT2 := allLt_of LT
    simp only [AllLt, and_true] at LT2
    walk_at "m_go"
    dsimp only [List.append_nil]
    refine tg mean mg mb 341 43 _ _ _ _ _ _ _ A₀ base g L' _ s _ _ (by decide) (by decide) B F X (fun _ h => nomatch h) T rfl ?_
    intro v h' tk' mods' gs' F' N' K' Fr' ⟨G, Lf, oG, oF, hv, hm, hlo, hne, hgs, hG, hF⟩
    subst hv hm
    have hsz : @LE.le Nat _ g.objs.size s.heap.objs.size := Nat.le_trans F.above (Nat.le_of_lt F.ns.lt)
    exact ⟨h', tk', _, (G, oG) :: (Lf, oF) :: [(x, instObj 648 dx), (dx, dictOf [⟨y1, .str (Str.ofString "f") j1, .ref fx⟩, ⟨y2, .str (Str.ofString "debug") j2, .bool false⟩, ⟨y3, .str (Str.ofString "q") j3, .ref qa⟩, ⟨y4, .str (Str.ofString "state") j4, .ref sm⟩, ⟨y5, .str (Str.ofString "escaped") j5, .bool false⟩, ⟨y6, .str (Str.ofString "eof") j6, .bool false⟩] 6), (sm, methodObj (.ref 645) (.ref x))], gs', rfl, F', List.forall_mem_cons.mpr ⟨N' _ (.head _), List.forall_mem_cons.mpr ⟨N' _ (.tail _ (.head _)), fun p hp => ⟨K' _ _ (N p hp).1 (fun _ h => nomatch h), (N p hp).2⟩⟩⟩, ⟨G, Lf, oG, oF, rfl, rfl, Nat.le_trans hsz hlo, hne, hgs, hG, hF⟩⟩
  case bd => 
    intro mean mg mb outer base g L' s A₀ B F X N T
    unfold selfM at F
    show wpAny _ _ _ _ _ _
    k_fold
    refine wpAny_execs_cons ?_
    refine wpAny_mono (Q := fun f s' => f = .next ∧ ∃ (h₁ : Heap) (tk₁ : Nat) (m₁ : Str → Option Value) (news₁ : Led), s' = { s with heap := h₁, toks := tk₁ } ∧ Fr g L' h₁ m₁ ∧ News g L' h₁ news₁) (E := fun _ _ => False) ?_ ?_ (fun _ _ h => h)
    · refine While_inv (n₀ := 1) (fun μ m₁ news₁ => (μ = 1 ∧ m₁ = (fun y => [(Str.ofString "self", Value.ref x)].reverse.lookup y) ∧ news₁ = [(x, instObj 648 dx), (dx, dictOf [⟨y1, .str (Str.ofString "f") j1, .ref fx⟩, ⟨y2, .str (Str.ofString "debug") j2, .bool false⟩, ⟨y3, .str (Str.ofString "q") j3, .ref qa⟩, ⟨y4, .str (Str.ofString "state") j4, .ref sm⟩, ⟨y5, .str (Str.ofString "escaped") j5, .bool false⟩, ⟨y6, .str (Str.ofString "eof") j6, .bool false⟩] 6), (sm, methodObj (.ref 645) (.ref x))]) ∨ (μ = 0 ∧ m₁ = (fun y => if y = Str.ofString "tok" then some Value.none else [(Str.ofString "self", Value.ref x)].reverse.lookup y) ∧ news₁ = [(x, instObj 648 dx), (dx, dictOf [⟨y1, .str (Str.ofString "f") j1, .ref fx⟩, ⟨y2, .str (Str.ofString "debug") j2, .bool false⟩, ⟨y3, .str (Str.ofString "q") j3, .ref qa⟩, ⟨y4, .str (Str.ofString "state") j4, .none⟩, ⟨y5, .str (Str.ofString "escaped") j5, .bool false⟩, ⟨y6, .str (Str.ofString "eof") j6, .bool false⟩] 6), (sm, methodObj (.ref 645) (.ref x))])) (by assumption) (by assumption) (.inl ⟨rfl, rfl, rfl⟩) ?_ (by passes_own)
      rintro μ m₁ news₁ h₁ tk₁ F₁ N₁ (⟨rfl, rfl, rfl⟩ | ⟨rfl, rfl, rfl⟩)
      · refine wpAny_mono (Q := CondB s h₁ true) (E := fun _ _ => False) ?_ ?_ (fun _ _ h => h)
        · walk_at "m_go"
          all_goals (refine condB_of ?_; rfl)
        rintro b s₂ ⟨tk', rfl, rfl⟩
        rw [if_pos rfl]
        show wpAny _ _ _ _ _ _
        try k_fold
        walk_at "m_go"
        dsimp only [List.append_nil]
        refine tells_use [] (tells_next w x dx qa fx sm h1 h2 h3 y1 y2 y3 y4 y5 y6 j1 j2 j3 j4 j5 j6) (by decide) (by decide) B F₁ X N₁ T rfl True.intro (fun _ h => h) (fun _ h => nomatch h) (fun _ h => nomatch h) ?_
        rintro v h' tk2 mods' F' N' - ⟨rfl, rfl⟩
        rw [List.append_nil] at N'
        clear N₁ F₁ N
        show wpAny _ _ _ _ _ _
        walk_at "m_go"
        refine WhileStep.intro (by assumption) (by assumption) (n' := 0) (by decide) (.inr ⟨rfl, ?_, rfl⟩)
        funext y
        by_cases hy : y = Str.ofString "tok"
        · simp only [hy, if_true]
        · simp only [hy, if_false]
      · refine wpAny_mono (Q := CondB s h₁ false) (E := fun _ _ => False) ?_ ?_ (fun _ _ h => h)
        · walk_at "m_go"
          all_goals (refine condB_of ?_; rfl)
        rintro b s₂ ⟨tk', rfl, rfl⟩
        rw [if_neg (by decide)]
        exact ⟨rfl, _, _, _, _, rfl, F₁, N₁⟩
    rintro f s' ⟨rfl, h₁, tk₁, m₁, news₁, rfl, F₁, N₁⟩
    dsimp only
    show wpAny _ _ _ _ _ _
    try k_fold
    walk_at "m_go"
    exact endB_of F₁ N₁ rfl
end Mine
end

section
open PySem PySem.W PySem.Calls PyProof.Rows
set_option Elab.async false
set_option maxRecDepth 100000
set_option maxHeartbeats 4000000
namespace Mine
theorem bare_set {gs : Array GenState} {i : Nat} {g : GenState} (h : AllBare gs) (hg : g.bare = true) : AllBare (gs.setIfInBounds i g) := fun y hy => by
  obtain ⟨j, hj, rfl⟩ := Array.getElem_of_mem hy
  rw [Array.getElem_setIfInBounds]
  · split
    · exact hg
    · exact h _ (Array.getElem_mem _)
  · simpa using hj
theorem genObj_is {h : Heap} {G : Addr} {o : Obj} {g : Nat} (e : h.get? G = some o) (x : GenObj o g) : h.IsGen G g := let ⟨nm, qn, a, b, c⟩ := x; ⟨o, nm, qn, e, a, b, c⟩
theorem list_of_iter {w : World} {x dx : Addr} {od : Obj} {M3 : Led} (hx : (x, instObj 648 dx) ∈ M3) (hdm : (dx, od) ∈ M3) (I : IterOK w x M3)
    (f1 : findIn (hd.heap_39 w.params) (.ref 648) "__iter__" = some (some (.ref 594))) (f2 : isFn (hd.heap_39 w.params) (.ref 594) = true) (f3 : findIn (hd.heap_39 w.params) (.ref 648) "__len__" = some none) (f4 : findIn (hd.heap_39 w.params) (.ref 648) "__length_hint__" = some none)
    {mean : ExcName → Option Value} {mg mb : Str → Option Value} {dp un : Nat} {gd : Option (List Code)} {cn : Str} {cs : Scope} {a : Addr} {ccd : Value} {cl : List (Str × Addr)} {outer : List Env} {A₀ : Around} {base h₀ : Heap} {L : Addr} {m : Str → Option Value} {s : Shared} {Q E : Value → Shared → Prop}
    (hdp : dp ≤ 320) (hun : un ≤ 20) (B : Below A₀ base outer h₀) (F : Fr h₀ L s.heap m) (X : (hd.heap_39 w.params).In h₀) (N : News h₀ L s.heap M3) (T : Top hd.view_39 LOO mean mg mb h₀) (hck : cs.kind = .function) (hgs : AllBare s.gens)
    (k : ∀ S h' tk' gs' n, Fr h₀ L h' m → News h₀ L h' [(S, listOf #[] n)] → AllBare gs' → Q (.ref S) { s with heap := h', toks := tk', gens := gs' }) :
    wpAny (model PySem.Challenge.rw_gr5003_01.row.prog w) (ktrTop dp un gd cn cs L a ccd cl outer) (call (.type "list") [.ref x]) Q E s := by
  obtain ⟨qual, body, scope, cdv, hkind, CI, hbody⟩ := I
  refine wpAny_weaken (A := ktrTop 320 20 none cn cs L a ccd cl outer) ?_ rfl hdp rfl rfl hun
  refine callType_codes (Q₁ := fun obj s₁ => obj = .ref s.heap.objs.size ∧ s₁ = { s with heap := s.heap.push { cls := .type "list", data := .seq #[] } }) PySem.F.called_list (PySem.F.typeCall_list_1 _) PySem.F.entry_list_init (code_list_new _ ⟨rfl, rfl⟩) fun obj s₁ h₁ => ?_
  obtain ⟨rfl, rfl⟩ := h₁
  have hS : (s.heap.push { cls := .type "list", data := .seq #[] }).get? s.heap.objs.size = some { cls := .type "list", data := .seq #[] } := Heap.get?_push_size _ rfl
  refine ⟨⟨_, hS, rfl⟩, PySem.F.args_list_init_2 _ _, ?_⟩
  show wpAny _ (ktrTop 320 22 none cn cs L a ccd cl outer) (do let old ← Builtin.List.listItems (.ref s.heap.objs.size); Builtin.List.listUpdate (.ref s.heap.objs.size) (fun _ => #[]); letGo old.toList.reverse; Builtin.List.listExtendWith (.ref s.heap.objs.size) (.ref x) .none) _ _ _
  refine wpAny_bind ?_
  unfold Builtin.List.listItems
  refine wpAny_bind (wpAny_seqItems hS rfl (wpAny_pure ?_))
  show wpAny _ _ (updateSeq s.heap.objs.size (fun _ => #[]) >>= fun _ => letGo (#[] : Array Value).toList.reverse >>= fun _ => Builtin.List.listExtendWith (.ref s.heap.objs.size) (.ref x) .none) _ _ _
  refine wpAny_bind (wpAny_updateSeq hS rfl ?_ (Nat.zero_le _) (Nat.zero_le _))
  have hS₂ := Heap.get?_update_self (Obj.mapSeq (fun _ => (#[] : Array Value))) hS rfl
  have kA : ∀ b o, s.heap.get? b = some o → ((s.heap.push { cls := .type "list", data := .seq #[] }).update s.heap.objs.size (Obj.mapSeq (fun _ => (#[] : Array Value)))).get? b = some o :=
    fun b o e => (Heap.get?_update_other _ _ (Ne.symm (Nat.ne_of_lt (Heap.lt_size e)))).trans (Heap.get?_push_of_some _ e)
  refine wpAny_bind (wpAny_letGo ?_)
  have hAs0 : ((s.heap.push { cls := .type "list", data := .seq #[] }).update s.heap.objs.size (Obj.mapSeq (fun _ => (#[] : Array Value)))).objs.size = s.heap.objs.size + 1 := by rw [(Heap.SameBut.update ..).1, Heap.size_push]
  generalize hAe : (s.heap.push { cls := .type "list", data := .seq #[] }).update s.heap.objs.size (Obj.mapSeq (fun _ => (#[] : Array Value))) = hA at kA hS₂ hAs0 ⊢
  have hlt : ∀ p ∈ M3, @LT.lt Nat _ p.1 s.heap.objs.size := fun p hp => Heap.lt_size (N p hp).1
  have hLS : @LT.lt Nat _ L s.heap.objs.size := F.ns.lt
  generalize hSe : s.heap.objs.size = S at *
  have xS : @Ne Nat S x := Nat.ne_of_gt (hlt _ hx)
  have F1 : Fr h₀ L hA m := fr_up F kA
  have N1 : News h₀ L hA M3 := fun p hp => ⟨kA _ _ (N p hp).1, (N p hp).2⟩
  have I1 := InstAt.of_news N1 hx hdm
  unfold Builtin.List.listExtendWith
  refine wpAny_bind (I1.type.here ?_)
  have g1 : Builtin.List.listSameRef (.ref S) (.ref x) = false := by simp [Builtin.List.listSameRef, xS]
  have g2 : (Value.ref 648 == Value.type "list") = false := by decide
  have g3 : (Value.ref 648 == Value.type "tuple") = false := by decide
  simp only [g1, g2, g3, Bool.or_false, Bool.false_eq_true, if_false]
  refine wpAny_bind (owit_iter F1 X I1 f1 f2 ?_)
  refine CI mean mg mb 320 22 none cn cs a ccd cl outer A₀ base h₀ L m { s with heap := hA } _ _ (by decide) (by decide) B F1 X N1 T hck ?_
  rintro v h2 tk2 mods2 gs2 F2 N2 K2 Fr2 ⟨G, Lf, oG, oF, rfl, rfl, hlo, hne, rfl, hG, hF⟩
  have G2 : h2.get? G = some oG := (N2 _ (.head _)).1
  have Lf2 : h2.get? Lf = some oF := (N2 _ (.tail _ (.head _))).1
  have N2' : News h₀ L h2 M3 := fun p hp => N2 p (.tail _ (.tail _ hp))
  have LfS : @Ne Nat Lf S := fun e => by rw [e] at hlo; exact absurd (Nat.le_trans (Nat.le_of_eq hAs0.symm) hlo) (Nat.not_succ_le_self _)
  have GS : @Ne Nat G S := by
    rcases Fr2 _ (.head _) with ⟨q, hq, e⟩ | e
    · intro e'; exact absurd ((show q.1 = S from e.trans e')) (Nat.ne_of_lt (hlt q hq))
    · intro e'
      rw [show G = S from e'] at e
      rw [show (S, oG).1 = S from rfl, hS₂] at e
      cases e
  have I2 := InstAt.of_news N2' hx hdm
  have X2 := X.keeps F2.keep
  have IG := genObj_is G2 hG
  unfold OwitIt
  refine wpAny_specialOf (T := "generator") (by exact ⟨oG, G2, hG.elim fun _ h => h.elim fun _ h => h.1⟩) slot_gen_next.lookup ?_
  dsimp only
  refine wpAny_bind (wpAny_holding ?_)
  unfold Builtin.List.listLengthHint
  refine wpAny_bind (wpAny_bind (I2.type.here ((looks_findIn X2 f3).here ?_)))
  show wpAny _ _ (specialOf (Value.ref x) (Str.ofString "__length_hint__") >>= _) _ _ _
  refine wpAny_bind (wpAny_bind (I2.type.here ((looks_findIn X2 f4).here ?_)))
  refine wpAny_pure ?_
  show wpAny _ _ (rule "list.extend.makes-room" >>= fun _ => Builtin.List.listTouch (.ref S) >>= fun _ =>
    again (.builtin "list.extend.loop" ⟨[.ref S, .ref G, .none], []⟩)) _ _ _
  refine wpAny_bind (wpAny_rule ?_)
  have hSA2 := K2 _ _ hS₂ (fun p hp => Nat.ne_of_lt (hlt p hp))
  refine wpAny_bind ?_
  show wpAny _ _ (updateSeq S (·.push .none) >>= fun _ => updateSeq S (·.pop)) _ _ _
  refine wpAny_bind (wpAny_updateSeq hSA2 rfl ?_ (Nat.zero_le _) (Nat.succ_le_succ (Nat.zero_le _)))
  have hS3 := Heap.get?_update_self (Obj.mapSeq (·.push Value.none)) hSA2 rfl
  refine wpAny_updateSeq hS3 rfl ?_ (Nat.le_of_ble_eq_true rfl) (Nat.zero_le _)
  have hS4 := Heap.get?_update_self (Obj.mapSeq (·.pop)) hS3 rfl
  have oth : ∀ b o, b ≠ S → h2.get? b = some o → ((h2.update S (Obj.mapSeq (·.push Value.none))).update S (Obj.mapSeq (·.pop))).get? b = some o :=
    fun b o hb e => (Heap.get?_update_other _ _ (Ne.symm hb)).trans ((Heap.get?_update_other _ _ (Ne.symm hb)).trans e)
  generalize hh3 : (h2.update S (Obj.mapSeq (·.push Value.none))).update S (Obj.mapSeq (·.pop)) = h3 at oth hS4 ⊢
  -- the ground for the generator's frame
  have hBS := Heap.get?_update_self (Obj.mapSeq (·.pop)) (Heap.get?_update_self (Obj.mapSeq (·.push Value.none)) hS₂ rfl) rfl
  have othB : ∀ b o, b ≠ S → hA.get? b = some o → ((hA.update S (Obj.mapSeq (·.push Value.none))).update S (Obj.mapSeq (·.pop))).get? b = some o :=
    fun b o hb e => (Heap.get?_update_other _ _ (Ne.symm hb)).trans ((Heap.get?_update_other _ _ (Ne.symm hb)).trans e)
  have hBback : ∀ b o, b ≠ S → ((hA.update S (Obj.mapSeq (·.push Value.none))).update S (Obj.mapSeq (·.pop))).get? b = some o → hA.get? b = some o :=
    fun b o hb e => ((Heap.get?_update_other _ _ (Ne.symm hb)).trans (Heap.get?_update_other _ _ (Ne.symm hb))).symm.trans e
  have hBs : ((hA.update S (Obj.mapSeq (·.push Value.none))).update S (Obj.mapSeq (·.pop))).objs.size = hA.objs.size := by rw [(Heap.SameBut.update ..).1, (Heap.SameBut.update ..).1]
  generalize hhB : (hA.update S (Obj.mapSeq (·.push Value.none))).update S (Obj.mapSeq (·.pop)) = hB at hBS othB hBback hBs
  obtain ⟨nB, hnB⟩ : ∃ n, hB.get? S = some (W.listOf #[] n) := ⟨_, hBS⟩
  have kB : ∀ b o, s.heap.get? b = some o → hB.get? b = some o := fun b o e => othB b o (by rw [← hSe]; exact Nat.ne_of_lt (Heap.lt_size e)) (kA b o e)
  obtain ⟨FG, BG, st, -⟩ := groundX (R := fun _ _ => True) (s := { s with heap := hB }) (A := ktrTop 320 20 none cn cs L a ccd cl outer) (env := envX cn cs L a ccd cl) B (fr_up F kB) (fun p hp => ⟨kB _ _ (N p hp).1, (N p hp).2⟩ : News h₀ L hB M3) rfl rfl hck
  have keep3 : ∀ b o, (hideAll hB (M3.map (·.1))).get? b = some o → h3.get? b = some o := by
    intro b o e
    have e1 := of_hideAll _ e
    by_cases hb : b = S
    · subst hb
      rw [hBS] at e1
      rw [hS4]; exact e1
    · refine oth b o hb (K2 b o (hBback b o hb e1) fun p hp q => ?_)
      have : (hideAll hB (M3.map (·.1))).get? p.1 = none := hideAll_none _ (List.mem_map_of_mem hp)
      rw [q, e] at this; cases this
  have FL : Fr (hideAll hB (M3.map (·.1))) Lf h3 (selfM x) := by
    obtain ⟨es, ep, e1, e2, e3⟩ := hF
    exact ⟨⟨oF, es, ep, oth _ _ LfS Lf2, e1, e2, e3⟩, keep3, by rw [hideAll_size, hBs]; exact hlo⟩
  have NL : News (hideAll hB (M3.map (·.1))) Lf h3 M3 := fun p hp => ⟨oth _ _ (Nat.ne_of_lt (hlt p hp)) (N2' p hp).1, Nat.ne_of_lt (Nat.lt_of_lt_of_le (Nat.lt_of_lt_of_le (hlt p hp) (Nat.le_trans (Nat.le_succ _) (Nat.le_of_eq hAs0.symm))) hlo), hideAll_none _ (List.mem_map_of_mem hp)⟩
  refine wpAny_pure ⟨plainId_quiet PySem.F.plain_extend_loop _, codeAny_builtin PySem.F.entry_extend_loop ?_⟩
  rw [Around.under_plainId PySem.F.plain_extend_loop _]
  show wpAny _ _ (pyNext (.ref G) >>= _) _ _ _
  refine wpAny_bind (wpAny_pyNext_gen (n := 0) (P := fun _ s₀ s₁ => ∃ h4 tk4, s₁ = { s₀ with heap := h4, toks := tk4 } ∧ ∀ b o, (hideAll hB (M3.map (·.1))).get? b = some o → h4.get? b = some o) (Y := fun _ _ _ _ _ => False) rfl
    (T.nolimit.keeps fun b o e => keep3 b o (st b o e)) (by show (320 : Nat) < recursionLimit; decide) (genObj_is (oth _ _ GS G2) hG) (Array.getElem?_push_size ..) ?_ (fun _ _ _ h => h.elim) ?_)
  · refine ⟨rfl, seg_func (seg_wrap ?_)⟩
    refine wpAny_weaken (A := ktrTop 330 40 none qual scope Lf 608 cdv [] (envX cn cs L a ccd cl :: outer)) ?_ rfl ?_ rfl rfl ?_
    rotate_left
    · exact Nat.le_of_ble_eq_true rfl
    · exact Nat.le_of_ble_eq_true rfl
    refine wpAny_mono (hbody mean mg mb (envX cn cs L a ccd cl :: outer) base _ Lf _ _ BG FL (X.keeps st) NL (T.keeps st)) (fun fl s' hl => ?_) fun _ _ e => e.elim
    obtain ⟨h', tk', m', mods', rfl, F', N', hv⟩ := hl
    refine seg_end (.ok (.ret _)) ?_
    refine ⟨?_, h', tk', rfl, F'.keep⟩
    cases fl with
    | ret v => exact congrArg (fun z => Except.ok (Flow.ret z)) (show v = Value.none from hv)
    | _ => rfl
  · rintro s₁ ⟨h4, tk4, rfl, hk4⟩ h' hk'
    refine wpAny_pure ?_
    refine ⟨rfl, k S h' tk4 _ nB ?_ ?_ ?_⟩
    · exact fr_up FG fun b o e => hk' _ _ (hk4 _ _ e)
    · intro p hp
      rw [List.mem_singleton.mp hp]
      refine ⟨hk' _ _ (hk4 _ _ (hideAll_get _ hnB fun q => ?_)), Nat.ne_of_gt hLS, ?_⟩
      · obtain ⟨p, hp, e⟩ := List.mem_map.mp q
        exact absurd e (Nat.ne_of_lt (hlt p hp))
      · exact new_none F (by rw [hSe]; exact Nat.le_refl _)
    · exact bare_set (bare_set (hgs.push rfl) rfl) rfl
end Mine
end

section
open PySem PySem.W PySem.Calls PyProof.Rows
set_option Elab.async false
set_option maxRecDepth 100000
set_option maxHeartbeats 4000000
namespace Mine

open PySem.Challenge
set_option rowWalk.seconds 0

local macro_rules | `(tactic| walk_at "m_go") => `(tactic| repeat' (
  (fail_if_success (with_reducible show PySem.wpAny _ _ (PySem.call (PySem.Value.ref _) _) _ _ _))
  (fail_if_success (with_reducible show PySem.wpAny _ _ (PySem.exec (PySem.Stmt.While _ _ _ _) _) _ _ _))
  (fail_if_success (with_reducible show Mine.EndB _ _ _ _ _ _))
  (first | (k_unfold; (try dsimp only)) | walk1 | (dsimp only; walk1) | fail "no step")))

local macro_rules | `(tactic| walk_at "truthy ref") => `(tactic| (k_here; (with_reducible show PySem.wpAny _ _ (PySem.truthy (PySem.Value.ref _)) _ _ _); k_dflt (refine' my_truthy ?N ?m ?z ?_; (case N => k_asm); (case m => k_mem); (case z => first | omega | (simp only [List.length_cons]; omega)); k_whole); (intro _); (try simp only [List.isEmpty_cons, List.isEmpty_nil, Bool.not_false, Bool.not_true])))
local macro_rules | `(tactic| walk_at "call builtin:list.pop") => `(tactic| (k_here; (with_reducible show PySem.wpAny _ _ (PySem.call (PySem.Value.builtin _) [PySem.Value.ref _, PySem.Value.int _ _]) _ _ _); k_dflt (refine' my_pop0 ?F ?N ?U ?z ?_; (case F => k_asm); (case N => k_asm); (case U => k_upd); (case z => omega)); kl_rest))
local macro_rules | `(tactic| walk_at "call builtin:len") => `(tactic| (k_here; (with_reducible show PySem.wpAny _ _ (PySem.call (PySem.Value.builtin "len") [PySem.Value.ref _]) _ _ _); k_dflt (refine' my_len ?N ?m ?z ?_; (case N => k_asm); (case m => k_mem); (case z => first | omega | (simp only [List.length_cons]; omega)); k_whole); (intro _ _)))

local macro_rules | `(tactic| walk_at "inplaceOp Add str str") => `(tactic| (k_here; (with_reducible show PySem.wpAny _ _ (PySem.inplaceOp PySem.Operator.Add (PySem.Value.str _ _) (PySem.Value.str _ _)) _ _ _); k_dflt (refine' my_iadd_txt ?z ?_; (case z => first | omega | (simp only [List.length_cons, List.length_append, List.length_take, List.length_drop, List.length_nil]; omega)); k_whole); (intro _ _)))
local macro_rules | `(tactic| walk_at "binaryOp Add str str") => `(tactic| (k_here; (with_reducible show PySem.wpAny _ _ (PySem.binaryOp PySem.Operator.Add (PySem.Value.str _ _) (PySem.Value.str _ _)) _ _ _); k_dflt (refine' my_add_txt ?z ?_; (case z => first | omega | (simp only [List.length_cons, List.length_append, List.length_take, List.length_drop, List.length_nil]; omega)); k_whole); (intro _ _)))
local macro_rules | `(tactic| walk_at "subscriptTail Attribute") => `(tactic| (k_here; (with_reducible show PySem.wpAny _ _ (subscriptTail _ _ (PySem.Value.ref _) (PySem.Value.int _ _)) _ _ _); k_dflt (refine' my_item ?N ?m ?a ?b ?c ?_; (case N => k_asm); (case m => k_mem); (case a => omega); (case b => omega); (case c => k_asm))))

local macro_rules | `(tactic| walk_at "call builtin:list.extend") => `(tactic| (k_here; (with_reducible show PySem.wpAny _ _ (PySem.call (PySem.Value.builtin _) [PySem.Value.ref _, PySem.Value.str _ _]) _ _ _); k_dflt (refine' my_extend ?hh ?F ?N ?m ?z ?_; (case hh => exact rfl); (case F => k_asm); (case N => k_asm); (case m => k_mem); (case z => omega)); (intro h' us n' tk F' hus hN); (have N' := hN _ (by k_upd)); clear hN; (try k_sweep)))

local macro_rules | `(tactic| walk_at "call builtin:list.extend") => `(tactic| (k_here; (with_reducible show PySem.wpAny _ _ (PySem.call (PySem.Value.builtin _) [PySem.Value.ref _, PySem.Value.ref _]) _ _ _); k_dflt (refine' my_extend_list ?F ?N ?m ?b ?z ?_; (case F => k_asm); (case N => k_asm); (case m => k_mem); (case b => k_mem); (case z => omega)); (intro h' n' F' hN); (have N' := hN _ (by k_upd)); clear hN; (try k_sweep)))
local macro_rules | `(tactic| walk_at "call type:list") => `(tactic| (k_here; (with_reducible show PySem.wpAny _ _ (PySem.call (PySem.Value.type _) [PySem.Value.str _ _]) _ _ _); k_dflt (refine' my_list_str ?hh ?F ?N ?z ?_; (case hh => exact rfl); (case F => k_asm); (case N => k_asm); (case z => omega)); (intro D h' us n' tk F' hus N' l1); (have hul := Chars.length hus); (try k_lt l1); (try k_sweep)))

local macro_rules | `(tactic| walk_at "subscriptTail Name Slice str ref") => `(tactic| (k_here; (with_reducible show PySem.wpAny _ _ (subscriptTail _ (PySem.Expr.Slice none (some _) none _) (PySem.Value.str (txt _) _) _) _ _ _); (with_reducible rename Fr _ _ _ _ => F'); (with_reducible rename News _ _ _ _ => N'); (refine my_slice_to (s := ⟨_, _, _, _, _⟩) F' N' (by omega) (by first | omega | (simp only [List.length_take, List.length_drop]; omega)) ?_); (intro _ _ _ _ _)))
local macro_rules | `(tactic| walk_at "subscriptTail Name Slice str ref") => `(tactic| (k_here; (with_reducible show PySem.wpAny _ _ (subscriptTail _ (PySem.Expr.Slice (some _) none none _) (PySem.Value.str (txt _) _) _) _ _ _); (with_reducible rename Fr _ _ _ _ => F'); (with_reducible rename News _ _ _ _ => N'); (refine my_slice_from (s := ⟨_, _, _, _, _⟩) F' N' (by omega) (by first | omega | (simp only [List.length_take, List.length_drop]; omega)) ?_); (intro _ _ _ _ _)))
local macro_rules | `(tactic| walk_at "call builtin:len") => `(tactic| (k_here; (with_reducible show PySem.wpAny _ _ (PySem.call (PySem.Value.builtin "len") [PySem.Value.str (txt _) _]) _ _ _); (refine my_len_txt (by first | omega | (simp only [List.length_take, List.length_drop]; omega)) ?_); (intro _ _)))

local macro_rules | `(tactic| walk_at "m_for") => `(tactic| repeat' (
  (fail_if_success (with_reducible show PySem.wpAny _ _ (PySem.call (PySem.Value.ref _) _) _ _ _))
  (fail_if_success (with_reducible show PySem.wpAny _ _ (PySem.exec (PySem.Stmt.While _ _ _ _) _) _ _ _))
  (fail_if_success (with_reducible show PySem.wpAny _ _ (PySem.exec (PySem.Stmt.For _ _ _ _ _) _) _ _ _))
  (fail_if_success (with_reducible show PySem.wpAny _ _ (PySem.pyIter _) _ _ _))
  (fail_if_success (with_reducible show Mine.EndB _ _ _ _ _ _))
  (fail_if_success (with_reducible show Mine.TurnB _ _ _ _ _ _ _ _ _))
  (fail_if_success (with_reducible show Mine.EndL _ _ _ _ _))
  (fail_if_success (with_reducible show PySem.wpAny _ _ (PySem.call (PySem.Value.type "list") [PySem.Value.ref _]) _ _ _))
  (first | (k_unfold; (try dsimp only)) | walk1 | (dsimp only; walk1) | fail "no step")))

local macro_rules | `(tactic| walk_at "eval Call") => `(tactic| ((with_reducible show PySem.wpAny _ _ (PySem.eval (PySem.Expr.Call (PySem.Expr.Name _ _) _ [] _) _) _ _ _); refine Call_ ?_))
local macro_rules | `(tactic| walk_at "eval Call Name") => `(tactic| ((with_reducible show PySem.wpAny _ _ (PySem.eval (PySem.Expr.Call (PySem.Expr.Name _ _) _ [] _) _) _ _ _); refine Call_ ?_))
local macro_rules | `(tactic| k_all) => `(tactic| with_reducible assumption)
local macro_rules | `(tactic| walk_at "binaryOp Add str str") => `(tactic| (k_here; (with_reducible show PySem.wpAny _ _ (PySem.binaryOp PySem.Operator.Add (PySem.Value.str (Str.ofString "y") _) (PySem.Value.str (txt _) _)) _ _ _); k_dflt (refine' my_add_y ?z ?_; (case z => omega); k_whole); (intro _ _)))
local macro_rules | `(tactic| walk_at "getMethod str") => `(tactic| (k_here; (with_reducible show PySem.wpAny _ _ (PySem.getMethod (PySem.Value.str _ _) (Str.ofString "encode") _) _ _ _); (with_reducible refine meth_encode ?_)))
local macro_rules | `(tactic| walk_at "call builtin:str.encode") => `(tactic| (k_here; (with_reducible show PySem.wpAny _ _ (PySem.call (PySem.Value.builtin "str.encode") [PySem.Value.str (txt (_ :: _)) _]) _ _ _); (refine my_encode (by k_asm) (by simp only [List.length_cons]; omega) ?_); (intro _ _)))

local macro_rules | `(tactic| walk_at "subscriptTail") => `(tactic| (k_here; (with_reducible show PySem.wpAny _ _ (subscriptTail _ _ (PySem.Value.ref _) (PySem.Value.int _ _)) _ _ _); k_dflt (refine' my_item ?N ?m ?a ?b ?c ?_; (case N => k_asm); (case m => k_mem); (case a => decide); (case b => decide); (case c => exact rfl); k_whole)))

local macro_rules | `(tactic| walk_at "subscriptTail Name") => `(tactic| (k_here; (with_reducible show PySem.wpAny _ _ (subscriptTail _ _ (PySem.Value.ref _) (PySem.Value.int _ _)) _ _ _); k_dflt (refine' my_item ?N ?m ?a ?b ?c ?_; (case N => k_asm); (case m => k_mem); (case a => decide); (case b => decide); (case c => exact rfl); k_whole)))

local macro_rules | `(tactic| walk_at "subscriptTail Name Name") => `(tactic| (k_here; (with_reducible show PySem.wpAny _ _ (subscriptTail _ _ (PySem.Value.ref _) (PySem.Value.int _ _)) _ _ _); k_dflt (refine' my_item ?N ?m ?a ?b ?c ?_; (case N => k_asm); (case m => k_mem); (case a => decide); (case b => decide); (case c => exact rfl); k_whole)))

local macro_rules | `(tactic| walk_at "subscriptTail Name Name ref int") => `(tactic| (k_here; (with_reducible show PySem.wpAny _ _ (subscriptTail _ _ (PySem.Value.ref _) (PySem.Value.int _ _)) _ _ _); k_dflt (refine' my_item ?N ?m ?a ?b ?c ?_; (case N => k_asm); (case m => k_mem); (case a => decide); (case b => decide); (case c => exact rfl); k_whole)))

local macro_rules | `(tactic| walk_at "subscriptTail Name Constant") => `(tactic| (k_here; (with_reducible show PySem.wpAny _ _ (subscriptTail _ _ (PySem.Value.ref _) (PySem.Value.int _ _)) _ _ _); k_dflt (refine' my_item ?N ?m ?a ?b ?c ?_; (case N => k_asm); (case m => k_mem); (case a => decide); (case b => decide); (case c => exact rfl); k_whole)))

local macro_rules | `(tactic| walk_at "subscriptTail Name Constant ref int") => `(tactic| (k_here; (with_reducible show PySem.wpAny _ _ (subscriptTail _ _ (PySem.Value.ref _) (PySem.Value.int _ _)) _ _ _); k_dflt (refine' my_item ?N ?m ?a ?b ?c ?_; (case N => k_asm); (case m => k_mem); (case a => decide); (case b => decide); (case c => exact rfl); k_whole)))

local macro_rules | `(tactic| walk_at "call type:range") => `(tactic| (k_here; (with_reducible show PySem.wpAny _ _ (PySem.call _ [PySem.Value.int _ _]) _ _ _); (with_reducible rename Fr _ _ _ _ => F'); (with_reducible rename News _ _ _ _ => N'); (with_unfolding_all refine range1_rows F' N' ?_); intro h' tk t1' u1' v1' R' F' N' K'; (try k_sweep)))
local macro_rules | `(tactic| walk_at "compareOp NotEq str str") => `(tactic| ((with_reducible show PySem.wpAny _ _ (PySem.compareOp _ (PySem.Value.str (txt _) _) (PySem.Value.str (txt _) _)) _ _ _); refine my_nes ?_))
local macro_rules | `(tactic| walk_at "compareOp NotEq str str") => `(tactic| ((with_reducible show PySem.wpAny _ _ (PySem.compareOp _ (PySem.Value.str (txt _) _) (PySem.Value.str (Str.ofString "") _)) _ _ _); refine my_ne0 ?_))

def stm (fd : FuncData) : List Stmt := match fd.body with
  | .stmts b => b
  | _ => []

theorem law_tail {w : World} {fd : FuncData} {oc : Value} {od : Option Addr} {osl : Array (Option Value)} (ho : (hd.heap_39 w.params).lookup 699 = some ⟨oc, od, .func fd, osl⟩) (mean : ExcName → Option Value) (mg mb : Str → Option Value) (outer : List Env) (base g : Heap) (L' : Addr) (s : Shared) (A₀ : Around) (m : Str → Option Value) (fa : Addr) (ccd : Value) (l : List Nat) (t : Tok) (hl : l.length ≤ 1000) (B : Below A₀ base outer g) (F : Fr g L' s.heap m) (hm : m (Str.ofString "first") = some (.str (txt l) t)) (X : (hd.heap_39 w.params).In g) (T : Top hd.view_39 LOO mean mg mb g) (hgs : AllBare s.gens) :
    wpAny (model PySem.Challenge.rw_gr5003_01.row.prog w) (ktrTop 302 7 none fd.qualname fd.scope L' fa ccd [] outer) (execs ((stm fd).drop 6) (envX fd.qualname fd.scope L' fa ccd [])) (EndL g L' s) (fun _ _ => False) s := by
  have kf : (hd.heap_39 w.params).In = (hd.heap_39 w.params).In ∧ PySem.Challenge.rw_gr5003_01 = PySem.Challenge.rw_gr5003_01 := ⟨rfl, rfl⟩
  revert kf
  w_top off
  k_fill
  intro kf
  have i1 : findIn (hd.heap_39 w.params) (.ref 648) "__iter__" = some (some (.ref 594)) := by k_dflt k_is
  have i2 : isFn (hd.heap_39 w.params) (.ref 594) = true := by k_dflt k_is
  have i3 : findIn (hd.heap_39 w.params) (.ref 648) "__len__" = some none := by k_dflt k_is
  have i4 : findIn (hd.heap_39 w.params) (.ref 648) "__length_hint__" = some none := by k_dflt k_is
  have e1 := ho.symm.trans (by k_dflt k_is)
  clear ho
  injection e1 with e1
  injection e1 with _ _ e1 _
  injection e1 with e1
  subst e1
  dsimp only [stm, List.drop]
  have N : News g L' s.heap [] := fun _ h => nomatch h
  show wpAny _ _ _ _ _ _
  k_fold
  walk_at "m_for"
  refine ld F hm ?_
  walk_at "m_for"
  refine tells_use0 (tells_newL w l t) (by decide) (by decide) (by k_asm) (by k_asm) (by k_asm) (by k_asm) (by k_asm) rfl True.intro ?_
  rintro v hN tkN modsN FN NN - ⟨x, dx, qa, fx, fd, sm, y1, y2, y3, y4, y5, y6, x1, x2, x3, j1, j2, j3, j4, j5, j6, k1, k2, k3, k4, k5, k6, rfl, d1, d2, d3, d4, d5, d6, d7, d8, d9, d10, rfl⟩
  have N3 : News _ _ _ [(x, instObj 648 dx), (dx, dictOf [⟨y1, .str (Str.ofString "f") j1, .ref fx⟩, ⟨y2, .str (Str.ofString "debug") j2, .bool false⟩, ⟨y3, .str (Str.ofString "q") j3, .ref qa⟩, ⟨y4, .str (Str.ofString "state") j4, .ref sm⟩, ⟨y5, .str (Str.ofString "escaped") j5, .bool false⟩, ⟨y6, .str (Str.ofString "eof") j6, .bool false⟩] 6), (sm, methodObj (.ref 645) (.ref x))] := List.forall_mem_cons.mpr ⟨NN _ (by k_mem), List.forall_mem_cons.mpr ⟨NN _ (by k_mem), List.forall_mem_cons.mpr ⟨NN _ (by k_mem), List.forall_mem_nil _⟩⟩⟩
  clear NN N F
  have q2 : @Ne Nat x sm := News.twoPlaces N3 (.head _) (.tail _ (.tail _ (.head _))) (fun q => nomatch congrArg Obj.cls q)
  have q3 : @Ne Nat dx sm := News.twoPlaces N3 (.tail _ (.head _)) (.tail _ (.tail _ (.head _))) (fun q => absurd (Value.type.inj (congrArg Obj.cls q)) (by decide))
  have IO := iter_ok w x dx qa fx sm d1 q2 q3 y1 y2 y3 y4 y5 y6 j1 j2 j3 j4 j5 j6
  walk_at "m_for"
  refine list_of_iter (.head _) (.tail _ (.head _)) IO i1 i2 i3 i4 (by decide) (by decide) B FN X N3 T rfl hgs ?_
  intro S hS tkS gS nS FS NS hgS
  clear IO N3 q2 q3 FN
  walk_at "m_for"
  rename Fr _ _ _ _ => FZ
  rename News _ _ _ _ => NZ
  rw [show Str.ofString "ab" = txt [97, 98] by decide +kernel]
  refine tells_use0 (tells_newLS w [97, 98] tkS (by decide)) (by decide) (by decide) (by k_asm) (by k_asm) (by k_asm) (by k_asm) (by k_asm) rfl True.intro ?_
  rintro v hP tkP modsP FP NP - ⟨x, Λ, rfl, HL, sm, rfl⟩
  have N4 : News _ _ _ Λ := fun p hp => NP p (List.mem_append_left _ (.tail _ hp))
  clear NP NZ FZ
  have H2 := HL
  obtain ⟨dx, qa, fx, fd, sm, y1, y2, y3, y4, y5, y6, x1_, x2_, x3_, j1, j2, j3, j4, j5, j6, k1, k2, k3, k4, k5, k6, nq, vs, C, Bf, p, h_x_dx, h_x_qa, h_x_fx, h_x_fd, h_dx_qa, h_dx_fx, h_dx_fd, h_qa_fx, h_qa_fd, h_fx_fd, hC, hCl, hp, hB, hR, rfl⟩ := H2
  walk_at "m_for"
  rename News _ _ _ _ => NZ
  refine tells_useD [] (tells_peekS w HL (by decide) _ 2 (by decide) (by decide) _ (.inl rfl)) (by decide) (by decide) (by k_asm) (by k_asm) (by k_asm) NZ (by k_asm) rfl True.intro (fun p hp => hp) (fun p hp => nomatch hp) (fun _ _ _ h => nomatch h) ?_
  rintro v hR tkR modsR FR NR - ⟨tv, rfl⟩
  rw [show txt (List.take (2 : Int).toNat [97, 98]) = Str.ofString "ab" by decide +kernel]
  clear HL NZ NR
  have NR : News g L' hR [] := fun _ h => nomatch h
  walk_at "m_for"
  rename Fr _ _ _ _ => FZ
  rename News _ _ _ _ => NZ
  rw [empty_txt]
  refine tells_use0 (tells_newLS w [] _ (by decide)) (by decide) (by decide) (by k_asm) (by k_asm) (by k_asm) (by k_asm) (by k_asm) rfl True.intro ?_
  rintro v hP tkP modsP FP NP - ⟨x, Λ, rfl, HL, sm, rfl⟩
  have N4 : News _ _ _ Λ := fun p hp => NP p (List.mem_append_left _ (.tail _ hp))
  clear NP NZ FZ
  obtain ⟨dx, qa, fx, fd, sm, y1, y2, y3, y4, y5, y6, x1_, x2_, x3_, j1, j2, j3, j4, j5, j6, k1, k2, k3, k4, k5, k6, nq, vs, C, Bf, p, h_x_dx, h_x_qa, h_x_fx, h_x_fd, h_dx_qa, h_dx_fx, h_dx_fd, h_qa_fx, h_qa_fd, h_fx_fd, hC, hCl, hp, hB, hR, rfl⟩ := HL
  walk_at "m_for"
  rename Fr _ _ _ _ => FY
  exact ⟨rfl, _, _, _, _, rfl, FY, hgS⟩

end Mine
end

section
open PySem PySem.W PySem.Calls PyProof.Rows
set_option Elab.async false
set_option maxRecDepth 100000
set_option maxHeartbeats 4000000
namespace Mine

open PySem.Challenge
set_option rowWalk.seconds 0

local macro_rules | `(tactic| walk_at "m_go") => `(tactic| repeat' (
  (fail_if_success (with_reducible show PySem.wpAny _ _ (PySem.call (PySem.Value.ref _) _) _ _ _))
  (fail_if_success (with_reducible show PySem.wpAny _ _ (PySem.exec (PySem.Stmt.While _ _ _ _) _) _ _ _))
  (fail_if_success (with_reducible show Mine.EndB _ _ _ _ _ _))
  (first | (k_unfold; (try dsimp only)) | walk1 | (dsimp only; walk1) | fail "no step")))

local macro_rules | `(tactic| walk_at "truthy ref") => `(tactic| (k_here; (with_reducible show PySem.wpAny _ _ (PySem.truthy (PySem.Value.ref _)) _ _ _); k_dflt (refine' my_truthy ?N ?m ?z ?_; (case N => k_asm); (case m => k_mem); (case z => first | omega | (simp only [List.length_cons]; omega)); k_whole); (intro _); (try simp only [List.isEmpty_cons, List.isEmpty_nil, Bool.not_false, Bool.not_true])))
local macro_rules | `(tactic| walk_at "call builtin:list.pop") => `(tactic| (k_here; (with_reducible show PySem.wpAny _ _ (PySem.call (PySem.Value.builtin _) [PySem.Value.ref _, PySem.Value.int _ _]) _ _ _); k_dflt (refine' my_pop0 ?F ?N ?U ?z ?_; (case F => k_asm); (case N => k_asm); (case U => k_upd); (case z => omega)); kl_rest))
local macro_rules | `(tactic| walk_at "call builtin:len") => `(tactic| (k_here; (with_reducible show PySem.wpAny _ _ (PySem.call (PySem.Value.builtin "len") [PySem.Value.ref _]) _ _ _); k_dflt (refine' my_len ?N ?m ?z ?_; (case N => k_asm); (case m => k_mem); (case z => first | omega | (simp only [List.length_cons]; omega)); k_whole); (intro _ _)))

local macro_rules | `(tactic| walk_at "inplaceOp Add str str") => `(tactic| (k_here; (with_reducible show PySem.wpAny _ _ (PySem.inplaceOp PySem.Operator.Add (PySem.Value.str _ _) (PySem.Value.str _ _)) _ _ _); k_dflt (refine' my_iadd_txt ?z ?_; (case z => first | omega | (simp only [List.length_cons, List.length_append, List.length_take, List.length_drop, List.length_nil]; omega)); k_whole); (intro _ _)))
local macro_rules | `(tactic| walk_at "binaryOp Add str str") => `(tactic| (k_here; (with_reducible show PySem.wpAny _ _ (PySem.binaryOp PySem.Operator.Add (PySem.Value.str _ _) (PySem.Value.str _ _)) _ _ _); k_dflt (refine' my_add_txt ?z ?_; (case z => first | omega | (simp only [List.length_cons, List.length_append, List.length_take, List.length_drop, List.length_nil]; omega)); k_whole); (intro _ _)))
local macro_rules | `(tactic| walk_at "subscriptTail Attribute") => `(tactic| (k_here; (with_reducible show PySem.wpAny _ _ (subscriptTail _ _ (PySem.Value.ref _) (PySem.Value.int _ _)) _ _ _); k_dflt (refine' my_item ?N ?m ?a ?b ?c ?_; (case N => k_asm); (case m => k_mem); (case a => omega); (case b => omega); (case c => k_asm))))

local macro_rules | `(tactic| walk_at "call builtin:list.extend") => `(tactic| (k_here; (with_reducible show PySem.wpAny _ _ (PySem.call (PySem.Value.builtin _) [PySem.Value.ref _, PySem.Value.str _ _]) _ _ _); k_dflt (refine' my_extend ?hh ?F ?N ?m ?z ?_; (case hh => exact rfl); (case F => k_asm); (case N => k_asm); (case m => k_mem); (case z => omega)); (intro h' us n' tk F' hus hN); (have N' := hN _ (by k_upd)); clear hN; (try k_sweep)))

local macro_rules | `(tactic| walk_at "call builtin:list.extend") => `(tactic| (k_here; (with_reducible show PySem.wpAny _ _ (PySem.call (PySem.Value.builtin _) [PySem.Value.ref _, PySem.Value.ref _]) _ _ _); k_dflt (refine' my_extend_list ?F ?N ?m ?b ?z ?_; (case F => k_asm); (case N => k_asm); (case m => k_mem); (case b => k_mem); (case z => omega)); (intro h' n' F' hN); (have N' := hN _ (by k_upd)); clear hN; (try k_sweep)))
local macro_rules | `(tactic| walk_at "call type:list") => `(tactic| (k_here; (with_reducible show PySem.wpAny _ _ (PySem.call (PySem.Value.type _) [PySem.Value.str _ _]) _ _ _); k_dflt (refine' my_list_str ?hh ?F ?N ?z ?_; (case hh => exact rfl); (case F => k_asm); (case N => k_asm); (case z => omega)); (intro D h' us n' tk F' hus N' l1); (have hul := Chars.length hus); (try k_lt l1); (try k_sweep)))

local macro_rules | `(tactic| walk_at "subscriptTail Name Slice str ref") => `(tactic| (k_here; (with_reducible show PySem.wpAny _ _ (subscriptTail _ (PySem.Expr.Slice none (some _) none _) (PySem.Value.str (txt _) _) _) _ _ _); (with_reducible rename Fr _ _ _ _ => F'); (with_reducible rename News _ _ _ _ => N'); (refine my_slice_to (s := ⟨_, _, _, _, _⟩) F' N' (by omega) (by first | omega | (simp only [List.length_take, List.length_drop]; omega)) ?_); (intro _ _ _ _ _)))
local macro_rules | `(tactic| walk_at "subscriptTail Name Slice str ref") => `(tactic| (k_here; (with_reducible show PySem.wpAny _ _ (subscriptTail _ (PySem.Expr.Slice (some _) none none _) (PySem.Value.str (txt _) _) _) _ _ _); (with_reducible rename Fr _ _ _ _ => F'); (with_reducible rename News _ _ _ _ => N'); (refine my_slice_from (s := ⟨_, _, _, _, _⟩) F' N' (by omega) (by first | omega | (simp only [List.length_take, List.length_drop]; omega)) ?_); (intro _ _ _ _ _)))
local macro_rules | `(tactic| walk_at "call builtin:len") => `(tactic| (k_here; (with_reducible show PySem.wpAny _ _ (PySem.call (PySem.Value.builtin "len") [PySem.Value.str (txt _) _]) _ _ _); (refine my_len_txt (by first | omega | (simp only [List.length_take, List.length_drop]; omega)) ?_); (intro _ _)))

local macro_rules | `(tactic| walk_at "m_for") => `(tactic| repeat' (
  (fail_if_success (with_reducible show PySem.wpAny _ _ (PySem.call (PySem.Value.ref _) _) _ _ _))
  (fail_if_success (with_reducible show PySem.wpAny _ _ (PySem.exec (PySem.Stmt.While _ _ _ _) _) _ _ _))
  (fail_if_success (with_reducible show PySem.wpAny _ _ (PySem.exec (PySem.Stmt.For _ _ _ _ _) _) _ _ _))
  (fail_if_success (with_reducible show PySem.wpAny _ _ (PySem.pyIter _) _ _ _))
  (fail_if_success (with_reducible show Mine.EndB _ _ _ _ _ _))
  (fail_if_success (with_reducible show Mine.TurnB _ _ _ _ _ _ _ _ _))
  (fail_if_success (with_reducible show Mine.EndL _ _ _ _ _))
  (first | (k_unfold; (try dsimp only)) | walk1 | (dsimp only; walk1) | fail "no step")))

local macro_rules | `(tactic| walk_at "eval Call") => `(tactic| ((with_reducible show PySem.wpAny _ _ (PySem.eval (PySem.Expr.Call (PySem.Expr.Name _ _) _ [] _) _) _ _ _); refine Call_ ?_))
local macro_rules | `(tactic| walk_at "eval Call Name") => `(tactic| ((with_reducible show PySem.wpAny _ _ (PySem.eval (PySem.Expr.Call (PySem.Expr.Name _ _) _ [] _) _) _ _ _); refine Call_ ?_))
local macro_rules | `(tactic| k_all) => `(tactic| with_reducible assumption)
local macro_rules | `(tactic| walk_at "binaryOp Add str str") => `(tactic| (k_here; (with_reducible show PySem.wpAny _ _ (PySem.binaryOp PySem.Operator.Add (PySem.Value.str (Str.ofString "y") _) (PySem.Value.str (txt _) _)) _ _ _); k_dflt (refine' my_add_y ?z ?_; (case z => omega); k_whole); (intro _ _)))
local macro_rules | `(tactic| walk_at "getMethod str") => `(tactic| (k_here; (with_reducible show PySem.wpAny _ _ (PySem.getMethod (PySem.Value.str _ _) (Str.ofString "encode") _) _ _ _); (with_reducible refine meth_encode ?_)))
local macro_rules | `(tactic| walk_at "call builtin:str.encode") => `(tactic| (k_here; (with_reducible show PySem.wpAny _ _ (PySem.call (PySem.Value.builtin "str.encode") [PySem.Value.str (txt (_ :: _)) _]) _ _ _); (refine my_encode (by k_asm) (by simp only [List.length_cons]; omega) ?_); (intro _ _)))

local macro_rules | `(tactic| walk_at "subscriptTail") => `(tactic| (k_here; (with_reducible show PySem.wpAny _ _ (subscriptTail _ _ (PySem.Value.ref _) (PySem.Value.int _ _)) _ _ _); k_dflt (refine' my_item ?N ?m ?a ?b ?c ?_; (case N => k_asm); (case m => k_mem); (case a => decide); (case b => decide); (case c => exact rfl); k_whole)))

local macro_rules | `(tactic| walk_at "subscriptTail Name") => `(tactic| (k_here; (with_reducible show PySem.wpAny _ _ (subscriptTail _ _ (PySem.Value.ref _) (PySem.Value.int _ _)) _ _ _); k_dflt (refine' my_item ?N ?m ?a ?b ?c ?_; (case N => k_asm); (case m => k_mem); (case a => decide); (case b => decide); (case c => exact rfl); k_whole)))

local macro_rules | `(tactic| walk_at "subscriptTail Name Name") => `(tactic| (k_here; (with_reducible show PySem.wpAny _ _ (subscriptTail _ _ (PySem.Value.ref _) (PySem.Value.int _ _)) _ _ _); k_dflt (refine' my_item ?N ?m ?a ?b ?c ?_; (case N => k_asm); (case m => k_mem); (case a => decide); (case b => decide); (case c => exact rfl); k_whole)))

local macro_rules | `(tactic| walk_at "subscriptTail Name Name ref int") => `(tactic| (k_here; (with_reducible show PySem.wpAny _ _ (subscriptTail _ _ (PySem.Value.ref _) (PySem.Value.int _ _)) _ _ _); k_dflt (refine' my_item ?N ?m ?a ?b ?c ?_; (case N => k_asm); (case m => k_mem); (case a => decide); (case b => decide); (case c => exact rfl); k_whole)))

local macro_rules | `(tactic| walk_at "subscriptTail Name Constant") => `(tactic| (k_here; (with_reducible show PySem.wpAny _ _ (subscriptTail _ _ (PySem.Value.ref _) (PySem.Value.int _ _)) _ _ _); k_dflt (refine' my_item ?N ?m ?a ?b ?c ?_; (case N => k_asm); (case m => k_mem); (case a => decide); (case b => decide); (case c => exact rfl); k_whole)))

local macro_rules | `(tactic| walk_at "subscriptTail Name Constant ref int") => `(tactic| (k_here; (with_reducible show PySem.wpAny _ _ (subscriptTail _ _ (PySem.Value.ref _) (PySem.Value.int _ _)) _ _ _); k_dflt (refine' my_item ?N ?m ?a ?b ?c ?_; (case N => k_asm); (case m => k_mem); (case a => decide); (case b => decide); (case c => exact rfl); k_whole)))

local macro_rules | `(tactic| walk_at "call type:range") => `(tactic| (k_here; (with_reducible show PySem.wpAny _ _ (PySem.call _ [PySem.Value.int _ _]) _ _ _); (with_reducible rename Fr _ _ _ _ => F'); (with_reducible rename News _ _ _ _ => N'); (with_unfolding_all refine range1_rows F' N' ?_); intro h' tk t1' u1' v1' R' F' N' K'; (try k_sweep)))
local macro_rules | `(tactic| walk_at "compareOp NotEq str str") => `(tactic| ((with_reducible show PySem.wpAny _ _ (PySem.compareOp _ (PySem.Value.str (txt _) _) (PySem.Value.str (txt _) _)) _ _ _); refine my_nes ?_))
local macro_rules | `(tactic| walk_at "compareOp NotEq str str") => `(tactic| ((with_reducible show PySem.wpAny _ _ (PySem.compareOp _ (PySem.Value.str (txt _) _) (PySem.Value.str (Str.ofString "") _)) _ _ _); refine my_ne0 ?_))

theorem law_loop2 {w : World} {fd : FuncData} {oc : Value} {od : Option Addr} {osl : Array (Option Value)} (ho : (hd.heap_39 w.params).lookup 699 = some ⟨oc, od, .func fd, osl⟩) (mean : ExcName → Option Value) (mg mb : Str → Option Value) (outer : List Env) (base g : Heap) (L' : Addr) (s : Shared) (A₀ : Around) (m : Str → Option Value) (fa : Addr) (ccd : Value) (l : List Nat) (t : Tok) (hl : l.length ≤ 1000) (Mo Lx M1 M2 Dl x1 x2 : Addr) (us : List Value) (nD nO nX n1 n2 : Nat) (R1 R2 : List Nat) (h1 h2 : Nat) (e1 e2 : Bool) (A B led : Led) (ta tb tc td : Tok) (BB : Below A₀ base outer g) (F : Fr g L' s.heap (fun y => if y = Str.ofString "first" then some (.str (txt l) t) else if y = Str.ofString "models" then some (.ref Mo) else if y = Str.ofString "lexers" then some (.ref Lx) else m y)) (X : (hd.heap_39 w.params).In g) (T : Top hd.view_39 LOO mean mg mb g) (hgs : AllBare s.gens)
    (N : News g L' s.heap ((Dl, listOf (List.toArray us) nD) :: (Mo, listOf #[.ref M1, .ref M2] nO) :: (Lx, listOf #[.ref x1, .ref x2] nX) :: (M1, listOf (List.toArray [.str (txt R1) ta, .int (h1 : Int) tb, .bool e1]) n1) :: (M2, listOf (List.toArray [.str (txt R2) tc, .int (h2 : Int) td, .bool e2]) n2) :: (A ++ (B ++ led)))) (HA : LexS x1 R1 h1 e1 A) (HB : LexS x2 R2 h2 e2 B) (V5 : Five ((Dl, listOf (List.toArray us) nD) :: (Mo, listOf #[.ref M1, .ref M2] nO) :: (Lx, listOf #[.ref x1, .ref x2] nX) :: led) M1 M2 A B) (hR1 : R1.length ≤ 100) (hR2 : R2.length ≤ 100) :
    wpAny (model PySem.Challenge.rw_gr5003_01.row.prog w) (ktrTop 302 7 none fd.qualname fd.scope L' fa ccd [] outer) (execs ((stm fd).drop 5) (envX fd.qualname fd.scope L' fa ccd [])) (EndL g L' s) (fun _ _ => False) s := by
  have TL := @law_tail w fd oc od osl ho
  have kf : (hd.heap_39 w.params).In = (hd.heap_39 w.params).In ∧ PySem.Challenge.rw_gr5003_01 = PySem.Challenge.rw_gr5003_01 := ⟨rfl, rfl⟩
  revert kf
  w_top off
  k_fill
  intro kf
  have e1_ := ho.symm.trans (by k_dflt k_is)
  clear ho
  injection e1_ with e1_
  injection e1_ with _ _ e1_ _
  injection e1_ with e1_
  subst e1_
  dsimp only [stm, List.drop] at TL ⊢
  show wpAny _ _ _ _ _ _
  k_fold
  refine wpAny_execs_cons ?_
  refine For_invV g (by rfl) (by rfl) ?_ (by intro _; rfl) (by passes_own)
  walk_at "m_for"
  refine range_loop (n := 2) rfl (by assumption) (by assumption) (by assumption) (by decide) (by decide) (fun i m₁ news => ∃ (Q1 Q2 : List Nat) (g1 g2 : Nat) (f1 f2 : Bool) (A B : Led) (b0 b1 b2 : Option Value), m₁ = (fun y => if y = Str.ofString "model" then b0 else if y = Str.ofString "lexer" then b1 else if y = Str.ofString "which" then b2 else if y = Str.ofString "first" then some (.str (txt l) t) else if y = Str.ofString "models" then some (.ref Mo) else if y = Str.ofString "lexers" then some (.ref Lx) else m y) ∧ news = (Dl, listOf (List.toArray us) nD) :: (Mo, listOf #[.ref M1, .ref M2] nO) :: (Lx, listOf #[.ref x1, .ref x2] nX) :: (M1, listOf (List.toArray [.str (txt R1) ta, .int (h1 : Int) tb, .bool e1]) n1) :: (M2, listOf (List.toArray [.str (txt R2) tc, .int (h2 : Int) td, .bool e2]) n2) :: (A ++ (B ++ led)) ∧ LexS x1 Q1 g1 f1 A ∧ LexS x2 Q2 g2 f2 B ∧ Five ((Dl, listOf (List.toArray us) nD) :: (Mo, listOf #[.ref M1, .ref M2] nO) :: (Lx, listOf #[.ref x1, .ref x2] nX) :: led) M1 M2 A B ∧ (i = 0 → Q1 = R1) ∧ (i ≤ 1 → Q2 = R2)) ⟨R1, R2, h1, h2, e1, e2, A, B, _, _, _, map_same, rfl, HA, HB, V5, fun _ => rfl, fun _ => rfl⟩ ?_ ?_
  · intro i t' m₁ news₁ hh₁ tk₁ I oI hlt ⟨Q1, Q2, g1, g2, f1, f2, A, B, b0, b1, b2, em2, en2, HA, HB, V5, hQ1, hQ2⟩ off F₁ N₁
    have offA : ∀ p ∈ A, p.1 ≠ I := fun p hp => off p (by rw [en2]; exact .tail _ (.tail _ (.tail _ (.tail _ (.tail _ (List.mem_append_left _ hp))))))
    have offB : ∀ p ∈ B, p.1 ≠ I := fun p hp => off p (by rw [en2]; exact .tail _ (.tail _ (.tail _ (.tail _ (.tail _ (List.mem_append_right _ (List.mem_append_left _ hp)))))))
    subst em2 en2
    show wpAny _ _ _ _ _ _
    try k_fold
    have hi2 : i = 0 ∨ i = 1 := by omega
    rcases hi2 with rfl | rfl
    · rw [hQ1 rfl] at HA
      rw [hQ2 (by decide)] at HB
      clear hQ1 hQ2
      rw [show ((0 : Nat) : Int) = 0 from rfl] at F₁

      have hT : R1.take (100 : Int).toNat = R1 := List.take_of_length_le (by show _ ≤ 100; omega)
      have hD : R1.drop (100 : Int).toNat = [] := List.drop_eq_nil_of_le (by show _ ≤ 100; omega)
      have NX : News _ _ _ (A ++ ((M1, listOf (List.toArray [.str (txt R1) ta, .int (h1 : Int) tb, .bool e1]) n1) :: (I, oI) :: (Dl, listOf (List.toArray us) nD) :: (Mo, listOf #[.ref M1, .ref M2] nO) :: (Lx, listOf #[.ref x1, .ref x2] nX) :: (M2, listOf (List.toArray [.str (txt R2) tc, .int (h2 : Int) td, .bool e2]) n2) :: (B ++ led))) := fun p hp => N₁ p (sub_open1 p hp)
      clear N₁
      have HX := HA
      obtain ⟨dx, qa, fx, fd, sm, y1, y2, y3, y4, y5, y6, x1_, x2_, x3_, j1, j2, j3, j4, j5, j6, k1, k2, k3, k4, k5, k6, nq, vs, C, Bf, p, h_x_dx, h_x_qa, h_x_fx, h_x_fd, h_dx_qa, h_dx_fx, h_dx_fd, h_qa_fx, h_qa_fd, h_fx_fd, hC, hCl, hp, hB, hR, rfl⟩ := HX
      simp only [List.cons_append, List.nil_append] at NX
      walk_at "m_for"
      rename News _ _ _ _ => NN
      refine tells_useD ((M1, listOf (List.toArray [.str (txt R1) ta, .int (h1 : Int) tb, .bool e1]) n1) :: (I, oI) :: (Dl, listOf (List.toArray us) nD) :: (Mo, listOf #[.ref M1, .ref M2] nO) :: (Lx, listOf #[.ref x1, .ref x2] nX) :: (M2, listOf (List.toArray [.str (txt R2) tc, .int (h2 : Int) td, .bool e2]) n2) :: (B ++ led)) (tells_readS w HA (by omega) _ 100 (by decide) (by decide) _ (.inl rfl)) (by decide) (by decide) (by k_asm) (by k_asm) (by k_asm) NN (by k_asm) rfl True.intro (fun p hp => .tail _ (List.mem_append_left ((M1, listOf (List.toArray [.str (txt R1) ta, .int (h1 : Int) tb, .bool e1]) n1) :: (I, oI) :: (Dl, listOf (List.toArray us) nD) :: (Mo, listOf #[.ref M1, .ref M2] nO) :: (Lx, listOf #[.ref x1, .ref x2] nX) :: (M2, listOf (List.toArray [.str (txt R2) tc, .int (h2 : Int) td, .bool e2]) n2) :: (B ++ led)) hp)) (fun p hp => .tail _ (.tail _ (.tail _ (.tail _ (.tail _ (.tail _ hp)))))) (V5.deed1 offA) ?_
      rintro v4 hN4 tkN4 L1 FN4 NN4 D4 ⟨⟨tv, rfl⟩, HL1⟩
      rw [hT]
      rw [hD] at HL1
      clear NN
      have HX := HL1
      have NY : News _ _ _ _ := NN4
      obtain ⟨dx, qa, fx, fd, sm, y1, y2, y3, y4, y5, y6, x1_, x2_, x3_, j1, j2, j3, j4, j5, j6, k1, k2, k3, k4, k5, k6, nq, vs, C, Bf, p, h_x_dx, h_x_qa, h_x_fx, h_x_fd, h_dx_qa, h_dx_fx, h_dx_fd, h_qa_fx, h_qa_fd, h_fx_fd, hC, hCl, hp, hB, hR, rfl⟩ := HX
      simp only [List.cons_append, List.nil_append] at NY
      walk_at "m_for"
      rename News _ _ _ _ => NN
      refine tells_useD ((M1, listOf (List.toArray [.str (txt R1) ta, .int (h1 : Int) tb, .bool e1]) n1) :: (I, oI) :: (Dl, listOf (List.toArray us) nD) :: (Mo, listOf #[.ref M1, .ref M2] nO) :: (Lx, listOf #[.ref x1, .ref x2] nX) :: (M2, listOf (List.toArray [.str (txt R2) tc, .int (h2 : Int) td, .bool e2]) n2) :: (B ++ led)) (tells_readS w HL1 (by decide) 909 1 (by decide) (by decide) [.ref x1] (.inr ⟨rfl, rfl, rfl⟩)) (by decide) (by decide) (by k_asm) (by k_asm) (by k_asm) NN (by k_asm) rfl True.intro (fun p hp => List.mem_append_left ((M1, listOf (List.toArray [.str (txt R1) ta, .int (h1 : Int) tb, .bool e1]) n1) :: (I, oI) :: (Dl, listOf (List.toArray us) nD) :: (Mo, listOf #[.ref M1, .ref M2] nO) :: (Lx, listOf #[.ref x1, .ref x2] nX) :: (M2, listOf (List.toArray [.str (txt R2) tc, .int (h2 : Int) td, .bool e2]) n2) :: (B ++ led)) hp) (fun p hp => .tail _ (.tail _ (.tail _ (.tail _ (.tail _ hp))))) D4 ?_
      rintro v5 hN5 tkN5 L2 FN5 NN5 D5 ⟨⟨tv5, rfl⟩, HL2⟩
      simp only [List.take_nil, List.drop_nil, List.isEmpty_nil, Bool.or_true] at HL2 ⊢
      clear NN
      have HA2 := HL2
      have NN6 : News _ _ _ _ := NN5
      obtain ⟨dx, qa, fx, fd, sm, y1, y2, y3, y4, y5, y6, x1_, x2_, x3_, j1, j2, j3, j4, j5, j6, k1, k2, k3, k4, k5, k6, nq, vs, C, Bf, p, h_x_dx, h_x_qa, h_x_fx, h_x_fd, h_dx_qa, h_dx_fx, h_dx_fd, h_qa_fx, h_qa_fd, h_fx_fd, hC, hCl, hp, hB, hR, rfl⟩ := HA2
      simp only [List.cons_append, List.nil_append] at NN6
      walk_at "m_for"

      exact turnB_next FN5 NN5 _ sub_fin1 (off_new off (V5.new1 D5).2 offB) ⟨_, R2, _, g2, true, f2, _, B, _, _, _, map_deeds, rfl, HL2, HB, (V5.new1 D5).1, fun h => absurd h (by decide), fun _ => rfl⟩
    · rw [hQ2 (by decide)] at HB
      clear hQ1 hQ2
      rw [show ((1 : Nat) : Int) = 1 from rfl] at F₁

      have hT : R2.take (100 : Int).toNat = R2 := List.take_of_length_le (by show _ ≤ 100; omega)
      have hD : R2.drop (100 : Int).toNat = [] := List.drop_eq_nil_of_le (by show _ ≤ 100; omega)
      have NX : News _ _ _ (B ++ ((M2, listOf (List.toArray [.str (txt R2) tc, .int (h2 : Int) td, .bool e2]) n2) :: (I, oI) :: (Dl, listOf (List.toArray us) nD) :: (Mo, listOf #[.ref M1, .ref M2] nO) :: (Lx, listOf #[.ref x1, .ref x2] nX) :: (M1, listOf (List.toArray [.str (txt R1) ta, .int (h1 : Int) tb, .bool e1]) n1) :: (A ++ led))) := fun p hp => N₁ p (sub_open2 p hp)
      clear N₁
      have HX := HB
      obtain ⟨dx, qa, fx, fd, sm, y1, y2, y3, y4, y5, y6, x1_, x2_, x3_, j1, j2, j3, j4, j5, j6, k1, k2, k3, k4, k5, k6, nq, vs, C, Bf, p, h_x_dx, h_x_qa, h_x_fx, h_x_fd, h_dx_qa, h_dx_fx, h_dx_fd, h_qa_fx, h_qa_fd, h_fx_fd, hC, hCl, hp, hB, hR, rfl⟩ := HX
      simp only [List.cons_append, List.nil_append] at NX
      walk_at "m_for"
      rename News _ _ _ _ => NN
      refine tells_useD ((M2, listOf (List.toArray [.str (txt R2) tc, .int (h2 : Int) td, .bool e2]) n2) :: (I, oI) :: (Dl, listOf (List.toArray us) nD) :: (Mo, listOf #[.ref M1, .ref M2] nO) :: (Lx, listOf #[.ref x1, .ref x2] nX) :: (M1, listOf (List.toArray [.str (txt R1) ta, .int (h1 : Int) tb, .bool e1]) n1) :: (A ++ led)) (tells_readS w HB (by omega) _ 100 (by decide) (by decide) _ (.inl rfl)) (by decide) (by decide) (by k_asm) (by k_asm) (by k_asm) NN (by k_asm) rfl True.intro (fun p hp => .tail _ (List.mem_append_left ((M2, listOf (List.toArray [.str (txt R2) tc, .int (h2 : Int) td, .bool e2]) n2) :: (I, oI) :: (Dl, listOf (List.toArray us) nD) :: (Mo, listOf #[.ref M1, .ref M2] nO) :: (Lx, listOf #[.ref x1, .ref x2] nX) :: (M1, listOf (List.toArray [.str (txt R1) ta, .int (h1 : Int) tb, .bool e1]) n1) :: (A ++ led)) hp)) (fun p hp => .tail _ (.tail _ (.tail _ (.tail _ (.tail _ (.tail _ hp)))))) (V5.deed2 offB) ?_
      rintro v4 hN4 tkN4 L1 FN4 NN4 D4 ⟨⟨tv, rfl⟩, HL1⟩
      rw [hT]
      rw [hD] at HL1
      clear NN
      have HX := HL1
      have NY : News _ _ _ _ := NN4
      obtain ⟨dx, qa, fx, fd, sm, y1, y2, y3, y4, y5, y6, x1_, x2_, x3_, j1, j2, j3, j4, j5, j6, k1, k2, k3, k4, k5, k6, nq, vs, C, Bf, p, h_x_dx, h_x_qa, h_x_fx, h_x_fd, h_dx_qa, h_dx_fx, h_dx_fd, h_qa_fx, h_qa_fd, h_fx_fd, hC, hCl, hp, hB, hR, rfl⟩ := HX
      simp only [List.cons_append, List.nil_append] at NY
      walk_at "m_for"
      rename News _ _ _ _ => NN
      refine tells_useD ((M2, listOf (List.toArray [.str (txt R2) tc, .int (h2 : Int) td, .bool e2]) n2) :: (I, oI) :: (Dl, listOf (List.toArray us) nD) :: (Mo, listOf #[.ref M1, .ref M2] nO) :: (Lx, listOf #[.ref x1, .ref x2] nX) :: (M1, listOf (List.toArray [.str (txt R1) ta, .int (h1 : Int) tb, .bool e1]) n1) :: (A ++ led)) (tells_readS w HL1 (by decide) 909 1 (by decide) (by decide) [.ref x2] (.inr ⟨rfl, rfl, rfl⟩)) (by decide) (by decide) (by k_asm) (by k_asm) (by k_asm) NN (by k_asm) rfl True.intro (fun p hp => List.mem_append_left ((M2, listOf (List.toArray [.str (txt R2) tc, .int (h2 : Int) td, .bool e2]) n2) :: (I, oI) :: (Dl, listOf (List.toArray us) nD) :: (Mo, listOf #[.ref M1, .ref M2] nO) :: (Lx, listOf #[.ref x1, .ref x2] nX) :: (M1, listOf (List.toArray [.str (txt R1) ta, .int (h1 : Int) tb, .bool e1]) n1) :: (A ++ led)) hp) (fun p hp => .tail _ (.tail _ (.tail _ (.tail _ (.tail _ hp))))) D4 ?_
      rintro v5 hN5 tkN5 L2 FN5 NN5 D5 ⟨⟨tv5, rfl⟩, HL2⟩
      simp only [List.take_nil, List.drop_nil, List.isEmpty_nil, Bool.or_true] at HL2 ⊢
      clear NN
      have HA2 := HL2
      have NN6 : News _ _ _ _ := NN5
      obtain ⟨dx, qa, fx, fd, sm, y1, y2, y3, y4, y5, y6, x1_, x2_, x3_, j1, j2, j3, j4, j5, j6, k1, k2, k3, k4, k5, k6, nq, vs, C, Bf, p, h_x_dx, h_x_qa, h_x_fx, h_x_fd, h_dx_qa, h_dx_fx, h_dx_fd, h_qa_fx, h_qa_fd, h_fx_fd, hC, hCl, hp, hB, hR, rfl⟩ := HA2
      simp only [List.cons_append, List.nil_append] at NN6
      walk_at "m_for"

      exact turnB_next FN5 NN5 _ sub_fin2 (off_new off offA (V5.new2 D5).2) ⟨Q1, _, g1, _, f1, true, A, _, _, _, _, map_deeds, rfl, HA, HL2, (V5.new2 D5).1, fun h => absurd h (by decide), fun h => absurd h (by decide)⟩
  · intro hF tkF mF newsF FF NF ⟨Q1, Q2, g1, g2, f1, f2, A, B, b0, b1, b2, em2, en2, _⟩
    subst em2 en2
    dsimp only
    exact TL mean mg mb outer base g L' { s with heap := hF, toks := tkF } A₀ _ fa ccd l t hl BB FF rfl X T hgs

end Mine
end

section
open PySem PySem.W PySem.Calls PyProof.Rows
set_option Elab.async false
set_option maxRecDepth 100000
set_option maxHeartbeats 4000000
namespace Mine

open PySem.Challenge
set_option rowWalk.seconds 0

local macro_rules | `(tactic| walk_at "m_go") => `(tactic| repeat' (
  (fail_if_success (with_reducible show PySem.wpAny _ _ (PySem.call (PySem.Value.ref _) _) _ _ _))
  (fail_if_success (with_reducible show PySem.wpAny _ _ (PySem.exec (PySem.Stmt.While _ _ _ _) _) _ _ _))
  (fail_if_success (with_reducible show Mine.EndB _ _ _ _ _ _))
  (first | (k_unfold; (try dsimp only)) | walk1 | (dsimp only; walk1) | fail "no step")))

local macro_rules | `(tactic| walk_at "truthy ref") => `(tactic| (k_here; (with_reducible show PySem.wpAny _ _ (PySem.truthy (PySem.Value.ref _)) _ _ _); k_dflt (refine' my_truthy ?N ?m ?z ?_; (case N => k_asm); (case m => k_mem); (case z => first | omega | (simp only [List.length_cons]; omega)); k_whole); (intro _); (try simp only [List.isEmpty_cons, List.isEmpty_nil, Bool.not_false, Bool.not_true])))
local macro_rules | `(tactic| walk_at "call builtin:list.pop") => `(tactic| (k_here; (with_reducible show PySem.wpAny _ _ (PySem.call (PySem.Value.builtin _) [PySem.Value.ref _, PySem.Value.int _ _]) _ _ _); k_dflt (refine' my_pop0 ?F ?N ?U ?z ?_; (case F => k_asm); (case N => k_asm); (case U => k_upd); (case z => omega)); kl_rest))
local macro_rules | `(tactic| walk_at "call builtin:len") => `(tactic| (k_here; (with_reducible show PySem.wpAny _ _ (PySem.call (PySem.Value.builtin "len") [PySem.Value.ref _]) _ _ _); k_dflt (refine' my_len ?N ?m ?z ?_; (case N => k_asm); (case m => k_mem); (case z => first | omega | (simp only [List.length_cons]; omega)); k_whole); (intro _ _)))

local macro_rules | `(tactic| walk_at "inplaceOp Add str str") => `(tactic| (k_here; (with_reducible show PySem.wpAny _ _ (PySem.inplaceOp PySem.Operator.Add (PySem.Value.str _ _) (PySem.Value.str _ _)) _ _ _); k_dflt (refine' my_iadd_txt ?z ?_; (case z => first | omega | (simp only [List.length_cons, List.length_append, List.length_take, List.length_drop, List.length_nil]; omega)); k_whole); (intro _ _)))
local macro_rules | `(tactic| walk_at "binaryOp Add str str") => `(tactic| (k_here; (with_reducible show PySem.wpAny _ _ (PySem.binaryOp PySem.Operator.Add (PySem.Value.str _ _) (PySem.Value.str _ _)) _ _ _); k_dflt (refine' my_add_txt ?z ?_; (case z => first | omega | (simp only [List.length_cons, List.length_append, List.length_take, List.length_drop, List.length_nil]; omega)); k_whole); (intro _ _)))
local macro_rules | `(tactic| walk_at "subscriptTail Attribute") => `(tactic| (k_here; (with_reducible show PySem.wpAny _ _ (subscriptTail _ _ (PySem.Value.ref _) (PySem.Value.int _ _)) _ _ _); k_dflt (refine' my_item ?N ?m ?a ?b ?c ?_; (case N => k_asm); (case m => k_mem); (case a => omega); (case b => omega); (case c => k_asm))))

local macro_rules | `(tactic| walk_at "call builtin:list.extend") => `(tactic| (k_here; (with_reducible show PySem.wpAny _ _ (PySem.call (PySem.Value.builtin _) [PySem.Value.ref _, PySem.Value.str _ _]) _ _ _); k_dflt (refine' my_extend ?hh ?F ?N ?m ?z ?_; (case hh => exact rfl); (case F => k_asm); (case N => k_asm); (case m => k_mem); (case z => omega)); (intro h' us n' tk F' hus hN); (have N' := hN _ (by k_upd)); clear hN; (try k_sweep)))

local macro_rules | `(tactic| walk_at "call builtin:list.extend") => `(tactic| (k_here; (with_reducible show PySem.wpAny _ _ (PySem.call (PySem.Value.builtin _) [PySem.Value.ref _, PySem.Value.ref _]) _ _ _); k_dflt (refine' my_extend_list ?F ?N ?m ?b ?z ?_; (case F => k_asm); (case N => k_asm); (case m => k_mem); (case b => k_mem); (case z => omega)); (intro h' n' F' hN); (have N' := hN _ (by k_upd)); clear hN; (try k_sweep)))
local macro_rules | `(tactic| walk_at "call type:list") => `(tactic| (k_here; (with_reducible show PySem.wpAny _ _ (PySem.call (PySem.Value.type _) [PySem.Value.str _ _]) _ _ _); k_dflt (refine' my_list_str ?hh ?F ?N ?z ?_; (case hh => exact rfl); (case F => k_asm); (case N => k_asm); (case z => omega)); (intro D h' us n' tk F' hus N' l1); (have hul := Chars.length hus); (try k_lt l1); (try k_sweep)))

local macro_rules | `(tactic| walk_at "subscriptTail Name Slice str ref") => `(tactic| (k_here; (with_reducible show PySem.wpAny _ _ (subscriptTail _ (PySem.Expr.Slice none (some _) none _) (PySem.Value.str (txt _) _) _) _ _ _); (with_reducible rename Fr _ _ _ _ => F'); (with_reducible rename News _ _ _ _ => N'); (refine my_slice_to (s := ⟨_, _, _, _, _⟩) F' N' (by omega) (by first | omega | (simp only [List.length_take, List.length_drop]; omega)) ?_); (intro _ _ _ _ _)))
local macro_rules | `(tactic| walk_at "subscriptTail Name Slice str ref") => `(tactic| (k_here; (with_reducible show PySem.wpAny _ _ (subscriptTail _ (PySem.Expr.Slice (some _) none none _) (PySem.Value.str (txt _) _) _) _ _ _); (with_reducible rename Fr _ _ _ _ => F'); (with_reducible rename News _ _ _ _ => N'); (refine my_slice_from (s := ⟨_, _, _, _, _⟩) F' N' (by omega) (by first | omega | (simp only [List.length_take, List.length_drop]; omega)) ?_); (intro _ _ _ _ _)))
local macro_rules | `(tactic| walk_at "call builtin:len") => `(tactic| (k_here; (with_reducible show PySem.wpAny _ _ (PySem.call (PySem.Value.builtin "len") [PySem.Value.str (txt _) _]) _ _ _); (refine my_len_txt (by first | omega | (simp only [List.length_take, List.length_drop]; omega)) ?_); (intro _ _)))

local macro_rules | `(tactic| walk_at "m_for") => `(tactic| repeat' (
  (fail_if_success (with_reducible show PySem.wpAny _ _ (PySem.call (PySem.Value.ref _) _) _ _ _))
  (fail_if_success (with_reducible show PySem.wpAny _ _ (PySem.exec (PySem.Stmt.While _ _ _ _) _) _ _ _))
  (fail_if_success (with_reducible show PySem.wpAny _ _ (PySem.exec (PySem.Stmt.For _ _ _ _ _) _) _ _ _))
  (fail_if_success (with_reducible show PySem.wpAny _ _ (PySem.pyIter _) _ _ _))
  (fail_if_success (with_reducible show Mine.EndB _ _ _ _ _ _))
  (fail_if_success (with_reducible show Mine.TurnB _ _ _ _ _ _ _ _ _))
  (fail_if_success (with_reducible show Mine.EndL _ _ _ _ _))
  (first | (k_unfold; (try dsimp only)) | walk1 | (dsimp only; walk1) | fail "no step")))

local macro_rules | `(tactic| walk_at "eval Call") => `(tactic| ((with_reducible show PySem.wpAny _ _ (PySem.eval (PySem.Expr.Call (PySem.Expr.Name _ _) _ [] _) _) _ _ _); refine Call_ ?_))
local macro_rules | `(tactic| walk_at "eval Call Name") => `(tactic| ((with_reducible show PySem.wpAny _ _ (PySem.eval (PySem.Expr.Call (PySem.Expr.Name _ _) _ [] _) _) _ _ _); refine Call_ ?_))
local macro_rules | `(tactic| k_all) => `(tactic| with_reducible assumption)
local macro_rules | `(tactic| walk_at "binaryOp Add str str") => `(tactic| (k_here; (with_reducible show PySem.wpAny _ _ (PySem.binaryOp PySem.Operator.Add (PySem.Value.str (Str.ofString "y") _) (PySem.Value.str (txt _) _)) _ _ _); k_dflt (refine' my_add_y ?z ?_; (case z => omega); k_whole); (intro _ _)))
local macro_rules | `(tactic| walk_at "getMethod str") => `(tactic| (k_here; (with_reducible show PySem.wpAny _ _ (PySem.getMethod (PySem.Value.str _ _) (Str.ofString "encode") _) _ _ _); (with_reducible refine meth_encode ?_)))
local macro_rules | `(tactic| walk_at "call builtin:str.encode") => `(tactic| (k_here; (with_reducible show PySem.wpAny _ _ (PySem.call (PySem.Value.builtin "str.encode") [PySem.Value.str (txt (_ :: _)) _]) _ _ _); (refine my_encode (by k_asm) (by simp only [List.length_cons]; omega) ?_); (intro _ _)))

local macro_rules | `(tactic| walk_at "subscriptTail") => `(tactic| (k_here; (with_reducible show PySem.wpAny _ _ (subscriptTail _ _ (PySem.Value.ref _) (PySem.Value.int _ _)) _ _ _); k_dflt (refine' my_item ?N ?m ?a ?b ?c ?_; (case N => k_asm); (case m => k_mem); (case a => decide); (case b => decide); (case c => exact rfl); k_whole)))

local macro_rules | `(tactic| walk_at "subscriptTail Name") => `(tactic| (k_here; (with_reducible show PySem.wpAny _ _ (subscriptTail _ _ (PySem.Value.ref _) (PySem.Value.int _ _)) _ _ _); k_dflt (refine' my_item ?N ?m ?a ?b ?c ?_; (case N => k_asm); (case m => k_mem); (case a => decide); (case b => decide); (case c => exact rfl); k_whole)))

local macro_rules | `(tactic| walk_at "subscriptTail Name Name") => `(tactic| (k_here; (with_reducible show PySem.wpAny _ _ (subscriptTail _ _ (PySem.Value.ref _) (PySem.Value.int _ _)) _ _ _); k_dflt (refine' my_item ?N ?m ?a ?b ?c ?_; (case N => k_asm); (case m => k_mem); (case a => decide); (case b => decide); (case c => exact rfl); k_whole)))

local macro_rules | `(tactic| walk_at "subscriptTail Name Name ref int") => `(tactic| (k_here; (with_reducible show PySem.wpAny _ _ (subscriptTail _ _ (PySem.Value.ref _) (PySem.Value.int _ _)) _ _ _); k_dflt (refine' my_item ?N ?m ?a ?b ?c ?_; (case N => k_asm); (case m => k_mem); (case a => decide); (case b => decide); (case c => exact rfl); k_whole)))

local macro_rules | `(tactic| walk_at "subscriptTail Name Constant") => `(tactic| (k_here; (with_reducible show PySem.wpAny _ _ (subscriptTail _ _ (PySem.Value.ref _) (PySem.Value.int _ _)) _ _ _); k_dflt (refine' my_item ?N ?m ?a ?b ?c ?_; (case N => k_asm); (case m => k_mem); (case a => decide); (case b => decide); (case c => exact rfl); k_whole)))

local macro_rules | `(tactic| walk_at "subscriptTail Name Constant ref int") => `(tactic| (k_here; (with_reducible show PySem.wpAny _ _ (subscriptTail _ _ (PySem.Value.ref _) (PySem.Value.int _ _)) _ _ _); k_dflt (refine' my_item ?N ?m ?a ?b ?c ?_; (case N => k_asm); (case m => k_mem); (case a => decide); (case b => decide); (case c => exact rfl); k_whole)))

local macro_rules | `(tactic| walk_at "call type:range") => `(tactic| (k_here; (with_reducible show PySem.wpAny _ _ (PySem.call _ [PySem.Value.int _ _]) _ _ _); (with_reducible rename Fr _ _ _ _ => F'); (with_reducible rename News _ _ _ _ => N'); (with_unfolding_all refine range1_rows F' N' ?_); intro h' tk t1' u1' v1' R' F' N' K'; (try k_sweep)))
local macro_rules | `(tactic| walk_at "compareOp NotEq str str") => `(tactic| ((with_reducible show PySem.wpAny _ _ (PySem.compareOp _ (PySem.Value.str (txt _) _) (PySem.Value.str (txt _) _)) _ _ _); refine my_nes ?_))
local macro_rules | `(tactic| walk_at "compareOp NotEq str str") => `(tactic| ((with_reducible show PySem.wpAny _ _ (PySem.compareOp _ (PySem.Value.str (txt _) _) (PySem.Value.str (Str.ofString "") _)) _ _ _); refine my_ne0 ?_))

theorem main : PySem.Challenge.rw_gr5003_01.Holds := by

  refine hd ?_
  w_top off
  k_fill
  intro w s₀ s₁ mg mb G Y fa o pm cd doc dV kV ho hdd hcd hD hmg hg args vals as hpre hlay hrd hwl hlo
  have KX := kIn_of Y
  have X := (Ground.X G).1
  have V := (Ground.X G).2
  try w_nolog (first | (have GL := glob_more (Ground.glob G (by first | k_qdec | decide +kernel) (by first | k_qdec | decide +kernel)) V) | (have GL := glob_more (Ground.glob G (by decide +kernel)) V))
  refine Ground.open G ?_
  intro T B D TE TW
  try (refine guard_noD D (by decide +kernel) ?_; clear D)
  obtain ⟨_, _, M⟩ := bmod_of_top T
  have TA := at_of_top T
  try (obtain ⟨_, _, he, B0⟩ := based_of_top T rfl hmg ho hdd; have he' : cd = _ := he; subst he'; clear he)
  clear hmg
  wrow_args hpre hlay hrd hwl hlo
  (first | refine callC_kw (enter_call ?_) | refine enter_call ?_ | refine callC_kw (enter_callW ?_) | refine enter_callW ?_ | w_how)
  w_top on
  have K0 := below_caller (Top.heap T)
  w_call any ho hdd hcd hD T F
  clear hdd TA
  k_drop

  rename List Int => ns
  rename IntsAre _ _ => hi
  rename Heap.IsList _ _ _ => hl
  rename Below _ _ _ _ => B
  rename Fr _ _ _ _ => F
  rename News _ _ _ _ => N
  rename ¬ ((63 : Nat) : Int) < _ => hlen
  have hn : ns.length ≤ 63 := by omega
  refine wpAny_weaken (A := ktrTop 302 7 none _ _ _ _ _ _ _) ?_ rfl (Nat.le_refl _) rfl rfl (Nat.le_refl _)
  refine wpAny_mono (Q := EndL s₁.heap s₁.heap.objs.size ⟨s₁.heap, #[], s₁.drawn, 0, s₁.os⟩) (E := fun _ _ => False) ?_ ?_ (fun _ _ h => h.elim)
  rotate_left
  · rintro f s' ⟨rfl, h', tk', gs, m', rfl, F', hgs⟩
    exact ⟨.inl ⟨.bool true, .bool true, [], rfl, raisesW_false (by wrow_none_raised), .bool true, postW_of (by wrow_shape) (by wtm_val) (by str_meet; first | done | w_fin), unshared_nil⟩, .of_keep F'.keep, rfl, hgs⟩
  show wpAny _ _ _ _ _ _
  k_fold

  walk_at "m_for"
  refine tells_use0 (tells_num w _ _ ns hi hn 1 _ (by decide) (by decide)) (by decide) (by decide) (by k_asm) (by k_asm) (by k_asm) (by k_asm) (by k_asm) rfl (by k_asm) ?_
  rintro v hN tkN modsN FN NN FreN ⟨⟨z1, tzN, rfl⟩, rfl⟩
  simp only [List.nil_append] at NN
  clear FreN
  walk_at "m_for"
  refine tells_use0 (tells_num w _ _ ns hi hn 1 _ (by decide) (by decide)) (by decide) (by decide) (by k_asm) (by k_asm) (by k_asm) (by k_asm) (by k_asm) rfl (by k_asm) ?_
  rintro v hN tkN modsN FN NN FreN ⟨⟨z2, tzN, rfl⟩, rfl⟩
  simp only [List.nil_append] at NN
  clear FreN
  walk_at "m_for"
  have hb0 := fmod_lo z2 (n := 13) (by decide)
  have hb1 := fmod_hi z2 (n := 13) (by decide)
  refine tells_use0 (tells_text w _ _ _ _ (by omega) (by omega)) (by decide) (by decide) (by k_asm) (by k_asm) (by k_asm) (by k_asm) (by k_asm) rfl (True.intro) ?_
  rintro v hN tkN modsN FN NN FreN ⟨⟨l1, tt_l1, rfl, hl_l1, ha_l1⟩, rfl⟩
  simp only [List.nil_append] at NN
  clear FreN

  walk_at "m_for"
  refine tells_use0 (tells_num w _ _ ns hi hn 2 _ (by decide) (by decide)) (by decide) (by decide) (by k_asm) (by k_asm) (by k_asm) (by k_asm) (by k_asm) rfl (by k_asm) ?_
  rintro v hN tkN modsN FN NN FreN ⟨⟨z3, tzN, rfl⟩, rfl⟩
  simp only [List.nil_append] at NN
  clear FreN
  walk_at "m_for"
  refine tells_use0 (tells_num w _ _ ns hi hn 2 _ (by decide) (by decide)) (by decide) (by decide) (by k_asm) (by k_asm) (by k_asm) (by k_asm) (by k_asm) rfl (by k_asm) ?_
  rintro v hN tkN modsN FN NN FreN ⟨⟨z4, tzN, rfl⟩, rfl⟩
  simp only [List.nil_append] at NN
  clear FreN
  walk_at "m_for"
  have hb0 := fmod_lo z4 (n := 12) (by decide)
  have hb1 := fmod_hi z4 (n := 12) (by decide)
  refine tells_use0 (tells_text w _ _ _ _ (by omega) (by omega)) (by decide) (by decide) (by k_asm) (by k_asm) (by k_asm) (by k_asm) (by k_asm) rfl (True.intro) ?_
  rintro v hN tkN modsN FN NN FreN ⟨⟨l2, tt_l2, rfl, hl_l2, ha_l2⟩, rfl⟩
  simp only [List.nil_append] at NN
  clear FreN

  have ha : Ascii (121 :: l2) := by
    intro c hc
    rcases List.mem_cons.mp hc with rfl | hc
    · decide
    · exact ha_l2 c hc
  walk_at "m_for"
  rename @_root_.LT.lt _ _ _ _ ∧ @_root_.LT.lt _ _ _ _ => lO
  rename @_root_.LT.lt _ _ (_ : Addr) _ => l12
  refine tells_use0 (tells_newLS w l1 _ (by omega)) (by decide) (by decide) (by k_asm) (by k_asm) (by k_asm) (by k_asm) (by k_asm) rfl (True.intro) ?_
  rintro v hN1 tkN1 modsN1 FN1 NN1 Fre1 ⟨x1, A, rfl, HL1, sm1, rfl⟩
  simp only [List.cons_append] at NN1
  walk_at "m_for"
  have hl2 : (121 :: l2).length ≤ 1000 := by simp only [List.length_cons]; omega
  refine tells_use0 (tells_newLSb w 121 l2 ha _ hl2) (by decide) (by decide) (by k_asm) (by k_asm) (by k_asm) (by k_asm) (by k_asm) rfl (True.intro) ?_
  rintro v hN2 tkN2 modsN2 FN2 NN2 Fre2 ⟨x2, B', rfl, HL2, sm2, rfl⟩
  simp only [List.cons_append] at NN2
  walk_at "m_for"
  rename @_root_.LT.lt _ _ _ _ ∧ AllLt _ _ => lX

  refine nm1 lX fun Lx ee => ?_
  subst ee
  refine nmO lO fun Mo ee => ?_
  subst ee
  refine nm2 l12 fun M1 M2 ee1 ee2 => ?_
  subst ee1
  subst ee2
  rename Fr _ _ _ _ => FX
  refine nmF FX fun m₀ em => ?_
  refine For_turns FX ?_ (by intro _; rfl) (by passes_own)
  walk_at "m_for"
  refine tells_use0 (tells_deeds w _ _ ns hi hn) (by decide) (by decide) (by k_asm) (by k_asm) (by k_asm) (by k_asm) (by k_asm) rfl (by k_asm) ?_
  rintro v hN3 tkN3 modsN3 FN3 NN3 Fre3 ⟨Dl, us, nD, led, rfl, rfl, TP, hus⟩
  simp only [List.cons_append] at NN3 Fre3
  have V0 := five_init Fre3 (fun p hp => (List.mem_cons.mp hp).elim (fun e => e ▸ lX.1) fun hp => allLt_all lX.2 p hp) Fre2 Fre1 l12 ⟨lO.1, lO.2⟩
  walk_at "m_for"

  have NP : News T.heap s₁.heap.objs.size hN3 ((Dl, listOf (List.toArray us) nD) :: (Mo, listOf #[.ref M1, .ref M2] 0) :: (Lx, listOf #[.ref x1, .ref x2] 0) :: (M1, listOf (List.toArray [.str (txt l1) _, .int 0 _, .bool false]) 0) :: (M2, listOf (List.toArray [.str (txt (121 :: l2)) _, .int 0 _, .bool false]) 0) :: (A ++ (B' ++ led))) := fun p hp => NN3 p (pl_sub p hp)
  clear NN3 Fre3 Fre2 Fre1 lX lO
  refine list_loop rfl FN3 NP (.head _) (fun i m news => ∃ (R1 R2 : List Nat) (h1 h2 : Nat) (e1 e2 : Bool) (A B : Led) (ta tb tc td : Tok) (nO nX n1 n2 : Nat) (a0 a1 a2 a3 a4 a5 a6 : Option Value), m = (fun y => if y = Str.ofString "due" then a0 else if y = Str.ofString "model" then a1 else if y = Str.ofString "lexer" then a2 else if y = Str.ofString "back" then a3 else if y = Str.ofString "size" then a4 else if y = Str.ofString "kind" then a5 else if y = Str.ofString "which" then a6 else m₀ y) ∧ news = (Dl, listOf (List.toArray us) nD) :: (Mo, listOf #[.ref M1, .ref M2] nO) :: (Lx, listOf #[.ref x1, .ref x2] nX) :: (M1, listOf (List.toArray [.str (txt R1) ta, .int (h1 : Int) tb, .bool e1]) n1) :: (M2, listOf (List.toArray [.str (txt R2) tc, .int (h2 : Int) td, .bool e2]) n2) :: (A ++ (B ++ led)) ∧ LexS x1 R1 h1 e1 A ∧ LexS x2 R2 h2 e2 B ∧ Five ((Dl, listOf (List.toArray us) nD) :: (Mo, listOf #[.ref M1, .ref M2] nO) :: (Lx, listOf #[.ref x1, .ref x2] nX) :: led) M1 M2 A B ∧ R1.length ≤ 12 + 3 * i ∧ R2.length ≤ 13 + 3 * i) ⟨l1, 121 :: l2, 0, 0, false, false, A, B', _, _, _, _, 0, 0, 0, 0, none, none, none, none, none, none, none, ?_, rfl, HL1, HL2, V0, by omega, by simp only [List.length_cons]; omega⟩ ?_ ?_ ?_
  · subst em
    funext y
    by_cases h0 : y = Str.ofString "due"
    · subst h0; rfl
    by_cases h1 : y = Str.ofString "lexer"
    · subst h1; rfl
    by_cases h2 : y = Str.ofString "model"
    · subst h2; rfl
    by_cases h3 : y = Str.ofString "back"
    · subst h3; rfl
    by_cases h4 : y = Str.ofString "size"
    · subst h4; rfl
    by_cases h5 : y = Str.ofString "kind"
    · subst h5; rfl
    by_cases h6 : y = Str.ofString "which"
    · subst h6; rfl
    simp only [h0, h1, h2, h3, h4, h5, h6, if_false]
  · rintro i m news ⟨R1, R2, h1, h2, e1, e2, A, B, ta, tb, tc, td, nO, nX, n1, n2, a0, a1, a2, a3, a4, a5, a6, rfl, rfl, _⟩
    exact .head _
  · intro i v m₁ news₁ h₁ tk₁ I oI hv ⟨R1, R2, h1, h2, e1, e2, A, B, ta, tb, tc, td, nO, nX, n1, n2, a0, a1, a2, a3, a4, a5, a6, em1, en1, HA, HB, V5, hR1, hR2⟩ off F₁ N₁
    subst em em1 en1
    clear NP V0 HL1 HL2
    obtain ⟨q, o, rfl, hq, wh, kd, sz, bk, t1, t2, t3, t4, nt, rfl, hw0, hw1, hk0, hk1, hs0, hs1, hbk⟩ := TP.1 i v (by simpa using hv)
    have NQ : News T.heap s₁.heap.objs.size h₁ ((q, deedObj wh kd sz bk t1 t2 t3 t4 nt) :: (I, oI) :: (Dl, listOf (List.toArray us) nD) :: (Mo, listOf #[.ref M1, .ref M2] nO) :: (Lx, listOf #[.ref x1, .ref x2] nX) :: (M1, listOf (List.toArray [.str (txt R1) ta, .int (h1 : Int) tb, .bool e1]) n1) :: (M2, listOf (List.toArray [.str (txt R2) tc, .int (h2 : Int) td, .bool e2]) n2) :: (A ++ (B ++ led))) := List.forall_mem_cons.mpr ⟨N₁ _ (.tail _ (.tail _ (.tail _ (.tail _ (.tail _ (.tail _ (List.mem_append_right _ (List.mem_append_right _ hq)))))))), N₁⟩
    clear N₁
    unfold deedObj at NQ
    show wpAny _ _ _ _ _ _
    k_fold
    have hil : i < us.length := by
      have := List.getElem?_eq_some_iff.mp (by simpa using hv : us[i]? = some (Value.ref q))
      exact this.1
    have hle1 := HA.le
    have hle2 := HB.le
    have offA : ∀ p ∈ A, p.1 ≠ I := fun p hp => off p (.tail _ (.tail _ (.tail _ (.tail _ (.tail _ (List.mem_append_left _ hp))))))
    have offB : ∀ p ∈ B, p.1 ≠ I := fun p hp => off p (.tail _ (.tail _ (.tail _ (.tail _ (.tail _ (List.mem_append_right _ (List.mem_append_left _ hp)))))))
    have off1 : @Ne Nat M1 I := off _ (.tail _ (.tail _ (.tail _ (.head _))))
    have off2 : @Ne Nat M2 I := off _ (.tail _ (.tail _ (.tail _ (.tail _ (.head _)))))
    have off0 := off
    clear off hv
    obtain rfl | rfl : wh = 0 ∨ wh = 1 := by omega
    · walk_at "m_for"
      rename News _ _ _ _ => NN
      refine tells_useD ((I, oI) :: (Dl, listOf (List.toArray us) nD) :: (Mo, listOf #[.ref M1, .ref M2] nO) :: (Lx, listOf #[.ref x1, .ref x2] nX) :: (M2, listOf (List.toArray [.str (txt R2) tc, .int (h2 : Int) td, .bool e2]) n2) :: (A ++ (B ++ led))) (tells_due w M1 R1 bk h1 e1 ta tb t2 t3 t4 n1 kd sz hk0 hk1 hs0 (by omega) (by omega) (by omega) (by omega)) (by decide) (by decide) (by k_asm) (by k_asm) (by k_asm) NN (by k_asm) rfl True.intro
        (fun p hp => by rw [List.mem_singleton.mp hp]; exact .tail _ (.tail _ (.tail _ (.tail _ (.tail _ (.tail _ (.head _))))))) sub_due1 (V5.due1 off1) ?_
      rintro v4 hN4 tkN4 mods4 FN4 NN4 D4 ⟨R1', h1', e1', ta', tb', n1', hv4, hR', hh', he', rfl⟩
      simp only [List.cons_append, List.nil_append] at NN4
      clear NN D4
      walk_at "m_for"
      rename News _ _ _ _ => NN
      refine tells_useD ((M1, listOf (List.toArray [.str (txt R1') ta', .int h1' tb', .bool e1']) n1') :: (I, oI) :: (Dl, listOf (List.toArray us) nD) :: (Mo, listOf #[.ref M1, .ref M2] nO) :: (Lx, listOf #[.ref x1, .ref x2] nX) :: (M2, listOf (List.toArray [.str (txt R2) tc, .int (h2 : Int) td, .bool e2]) n2) :: (B ++ led)) (tells_deedS w HA (by omega) t2 t3 t4 bk (by omega) kd sz hk0 hk1 hs0 (by omega)) (by decide) (by decide) (by k_asm) (by k_asm) (by k_asm) NN (by k_asm) rfl True.intro
        mem_A1 sub_deed1 (V5.deed1 offA) ?_
      rintro v5 hN5 tkN5 A' FN5 NN5 D5 ⟨hv5, HA'⟩
      clear NN
      walk_at "m_for"
      skip
      refine my_ne hv5 hv4 ?_
      have HA2 := HA'
      have NN6 : News _ _ _ _ := NN5
      obtain ⟨dx, qa, fx, fd, sm, y1, y2, y3, y4, y5, y6, x1_, x2_, x3_, j1, j2, j3, j4, j5, j6, k1, k2, k3, k4, k5, k6, nq, vs, C, Bf, p, h_x_dx, h_x_qa, h_x_fx, h_x_fd, h_dx_qa, h_dx_fx, h_dx_fd, h_qa_fx, h_qa_fd, h_fx_fd, hC, hCl, hp, hB, hR, rfl⟩ := HA2
      simp only [List.cons_append, List.nil_append] at NN6
      dsimp only
      walk_at "m_for"
      · exfalso
        rename (_ != _) = true => hbad
        rw [he', bne_self_eq_false] at hbad
        cases hbad
      subst hR' hh' he'
      have hlr := dueR_len (kind := kd) (size := sz) (b := bk) (R := R1)
      exact turnB_next FN5 NN5 _ sub_fin1 (off_new off0 (V5.new1 D5).2 offB) ⟨_, R2, _, h2, _, e2, _, B, ta', tb', tc, td, nO, nX, n1', n2, _, _, _, _, _, _, _, map_law, rfl, HA', HB, (V5.new1 D5).1, by omega, by omega⟩
    · walk_at "m_for"
      rename News _ _ _ _ => NN
      refine tells_useD ((I, oI) :: (Dl, listOf (List.toArray us) nD) :: (Mo, listOf #[.ref M1, .ref M2] nO) :: (Lx, listOf #[.ref x1, .ref x2] nX) :: (M1, listOf (List.toArray [.str (txt R1) ta, .int (h1 : Int) tb, .bool e1]) n1) :: (A ++ (B ++ led))) (tells_due w M2 R2 bk h2 e2 tc td t2 t3 t4 n2 kd sz hk0 hk1 hs0 (by omega) (by omega) (by omega) (by omega)) (by decide) (by decide) (by k_asm) (by k_asm) (by k_asm) NN (by k_asm) rfl True.intro
        (fun p hp => by rw [List.mem_singleton.mp hp]; exact .tail _ (.tail _ (.tail _ (.tail _ (.tail _ (.tail _ (.tail _ (.head _)))))))) sub_due2 (V5.due2 off2) ?_
      rintro v4 hN4 tkN4 mods4 FN4 NN4 D4 ⟨R2', h2', e2', tc', td', n2', hv4, hR', hh', he', rfl⟩
      simp only [List.cons_append, List.nil_append] at NN4
      clear NN D4
      walk_at "m_for"
      rename News _ _ _ _ => NN
      refine tells_useD ((M2, listOf (List.toArray [.str (txt R2') tc', .int h2' td', .bool e2']) n2') :: (I, oI) :: (Dl, listOf (List.toArray us) nD) :: (Mo, listOf #[.ref M1, .ref M2] nO) :: (Lx, listOf #[.ref x1, .ref x2] nX) :: (M1, listOf (List.toArray [.str (txt R1) ta, .int (h1 : Int) tb, .bool e1]) n1) :: (A ++ led)) (tells_deedS w HB (by omega) t2 t3 t4 bk (by omega) kd sz hk0 hk1 hs0 (by omega)) (by decide) (by decide) (by k_asm) (by k_asm) (by k_asm) NN (by k_asm) rfl True.intro
        mem_B2 sub_deed2 (V5.deed2 offB) ?_
      rintro v5 hN5 tkN5 B2 FN5 NN5 D5 ⟨hv5, HA'⟩
      clear NN
      walk_at "m_for"
      skip
      refine my_ne hv5 hv4 ?_
      have HA2 := HA'
      have NN6 : News _ _ _ _ := NN5
      obtain ⟨dx, qa, fx, fd, sm, y1, y2, y3, y4, y5, y6, x1_, x2_, x3_, j1, j2, j3, j4, j5, j6, k1, k2, k3, k4, k5, k6, nq, vs, C, Bf, p, h_x_dx, h_x_qa, h_x_fx, h_x_fd, h_dx_qa, h_dx_fx, h_dx_fd, h_qa_fx, h_qa_fd, h_fx_fd, hC, hCl, hp, hB, hR, rfl⟩ := HA2
      simp only [List.cons_append, List.nil_append] at NN6
      dsimp only
      walk_at "m_for"
      · exfalso
        rename (_ != _) = true => hbad
        rw [he', bne_self_eq_false] at hbad
        cases hbad
      subst hR' hh' he'
      have hlr := dueR_len (kind := kd) (size := sz) (b := bk) (R := R2)
      exact turnB_next FN5 NN5 _ sub_fin2 (off_new off0 offA (V5.new2 D5).2) ⟨R1, _, h1, _, e1, _, A, _, ta, tb, tc', td', nO, nX, n1, n2', _, _, _, _, _, _, _, map_law, rfl, HA, HA', (V5.new2 D5).1, by omega, by omega⟩
  · intro hE tkE mE newsE FE NE ⟨R1, R2, h1, h2, e1, e2, A, B, ta, tb, tc, td, nO, nX, n1, n2, a0, a1, a2, a3, a4, a5, a6, em1, en1, HA, HB, V5, hR1, hR2⟩
    subst em em1 en1
    clear NP V0 HL1 HL2
    have hus2 : (List.toArray us).size ≤ 24 := by simpa using hus
    show wpAny _ _ _ _ _ _
    try k_fold
    have LL := @law_loop2 w _ _ _ _ (by k_dflt k_is)
    dsimp only [stm, List.drop] at LL
    refine wpAny_mono (LL _ mg mb _ _ T.heap s₁.heap.objs.size _ _ _ fa _ l1 tt_l1 (by omega) Mo Lx M1 M2 Dl x1 x2 us nD nO nX n1 n2 R1 R2 h1 h2 e1 e2 A B led ta tb tc td (by assumption) (fr_three FE rfl rfl rfl) (by assumption) T (AllBare.of_eq (by assumption)) NE HA HB V5 (by omega) (by omega)) (fun f s' h => h) (fun _ _ h => h)

end Mine
end

set_option maxRecDepth 100000 in
set_option maxHeartbeats 4000000 in
theorem PySem.Challenge.cw_gr5003_01_holds : PySem.Challenge.rw_gr5003_01.Holds :=
  Mine.main
